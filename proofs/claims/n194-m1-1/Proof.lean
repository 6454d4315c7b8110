import JvmDerived
import JvmDerived.Pilot.@@N@@Statement
import JvmDerived.Pilot.@@N@@Code
set_option linter.unusedVariables false
set_option linter.unusedSimpArgs false
namespace Jvm.Pilot.@@N@@
open Jvm Jvm.ClassFile Sem Op Lib Jvm.Free Jvm.Stand Jvm.LawKit Jvm.RoadKit Bundle Jvm.Pilot.@@N@@.Jvm.D
/-- the goal of a walk: from S the run comes to an end that P tells of -/
def Gl (p : Program) (e : Env) (below : List Frame) (P : Outcome → State → Prop) (S : State) : Prop := ∃ (t : State) (o : Outcome), Steps p.tables e below S t ∧ t.status = .running ∧ Ended t below o ∧ P o t
theorem Gl.st {p : Program} {e : Env} {below : List Frame} {P : Outcome → State → Prop} {S S' : State} (k : ∀ target, Steps p.tables e below S' target → Steps p.tables e below S target) (g : Gl p e below P S') : Gl p e below P S := by
  obtain ⟨t, o, h, r⟩ := g; exact ⟨t, o, k t h, r⟩
theorem Gl.tr {p : Program} {e : Env} {below : List Frame} {P : Outcome → State → Prop} {S S' : State} (k : Steps p.tables e below S S') (g : Gl p e below P S') : Gl p e below P S := by
  obtain ⟨t, o, h, r⟩ := g; exact ⟨t, o, k.trans h, r⟩
theorem Gl.gen {p : Program} {e : Env} {below : List Frame} {P : Outcome → State → Prop} {S : State} (h : ∀ P' : Outcome → State → Prop, (∀ o t, P o t → P' o t) → Gl p e below P' S) : Gl p e below P S := h P fun _ _ q => q
theorem own_cat {v : Value} (h : v.isRef = true) : v.category = 1 := by rcases ref_cases h with rfl | ⟨x, rfl⟩ <;> rfl
theorem own_narR {v : Value} (h : v.isRef = true) (C : String) : narrow (.object C) v = v := by rcases ref_cases h with rfl | ⟨x, rfl⟩ <;> rfl
theorem own_fitR {v : Value} (h : v.isRef = true) (C : String) : fits (.object C) v = true := by rcases ref_cases h with rfl | ⟨x, rfl⟩ <;> rfl
theorem own_nn (i : Nat) (h : i ≤ 40) : (Int32.ofNat i).toNatClampNeg = i := (by decide +kernel : ∀ i : Fin 41, (Int32.ofNat i.val).toNatClampNeg = i.val) ⟨i, by omega⟩
theorem own_lt (i j : Nat) (hi : i ≤ 40) (hj : j ≤ 40) : Int32.ofNat i < Int32.ofNat j ↔ i < j := (by decide +kernel : ∀ i j : Fin 41, Int32.ofNat i.val < Int32.ofNat j.val ↔ i.val < j.val) ⟨i, by omega⟩ ⟨j, by omega⟩
theorem own_eq (i j : Nat) (hi : i ≤ 40) (hj : j ≤ 40) : Int32.ofNat i = Int32.ofNat j ↔ i = j := (by decide +kernel : ∀ i j : Fin 41, Int32.ofNat i.val = Int32.ofNat j.val ↔ i.val = j.val) ⟨i, by omega⟩ ⟨j, by omega⟩
theorem own_neg (i : Nat) (hi : i ≤ 40) : ¬ Int32.ofNat i < (0 : Int32) := (by decide +kernel : ∀ i : Fin 41, ¬ Int32.ofNat i.val < (0 : Int32)) ⟨i, by omega⟩
theorem own_add (i j : Nat) : Int32.ofNat i + Int32.ofNat j = Int32.ofNat (i + j) := by
  apply Int32.toBitVec_inj.mp
  rw [Int32.toBitVec_add]
  show BitVec.ofNat 32 i + BitVec.ofNat 32 j = BitVec.ofNat 32 (i + j)
  rw [← BitVec.ofNat_add]
theorem own_s (i : Nat) : Int32.ofNat i + (1 : Int32) = Int32.ofNat (i + 1) := own_add i 1
theorem own_subs (a b : Int32) : a + b - a = b := by
  apply Int32.toBitVec_inj.mp
  rw [Int32.toBitVec_sub, Int32.toBitVec_add, BitVec.add_comm]
  exact BitVec.add_sub_cancel _ _
theorem own_sub (i j k : Nat) (h : i = j + k) : Int32.ofNat i - Int32.ofNat j = Int32.ofNat k := by
  rw [h, ← own_add]; exact own_subs _ _
theorem own_mul (i j : Nat) : Int32.ofNat i * Int32.ofNat j = Int32.ofNat (i * j) := by
  apply Int32.toBitVec_inj.mp
  rw [Int32.toBitVec_mul]
  show BitVec.ofNat 32 i * BitVec.ofNat 32 j = BitVec.ofNat 32 (i * j)
  rw [← BitVec.ofNat_mul]
theorem own_room {n cb sz rr : Nat} (h : n * cb = sz + rr) : Int32.ofNat n * Int32.ofNat cb - Int32.ofNat sz = Int32.ofNat rr := by rw [own_mul]; exact own_sub _ _ _ h
theorem own_and (x : Int32) (k : Nat) (y : Int32) (hy : y.toBitVec.toNat = k) : ∃ i, i ≤ k ∧ x &&& y = Int32.ofNat i := by
  refine ⟨(x &&& y).toBitVec.toNat, ?_, ?_⟩
  · simp only [Int32.toBitVec_and, BitVec.toNat_and]; rw [hy]; exact Nat.and_le_right
  · apply Int32.toBitVec_inj.mp
    show _ = BitVec.ofNat 32 _
    rw [BitVec.ofNat_toNat]; simp
def own_E1 (Z : State) (h : Heap) (v : Value) : Prop := v = .null ∨ ∃ y, v = .ref y ∧ Ins Z h y "java/lang/Object" true
def own_El (Z : State) (h : Heap) (vs : List Value) : Prop := ∀ v ∈ vs, own_E1 Z h v
section
variable {Z : State} {h h' : Heap} {vs us : List Value} {v w : Value} {a : Addr} {sl : Nat} {ws : List Addr}
theorem own_El_ext (E : Ext h h') (p : own_El Z h vs) : own_El Z h' vs := fun v hv => (p v hv).imp id fun ⟨y, q, I⟩ => ⟨y, q, I.ext E⟩
theorem own_El_wr (W : Wr h h' a sl w) (p : own_El Z h vs) : own_El Z h' vs := fun v hv => (p v hv).imp id fun ⟨y, q, I⟩ => ⟨y, q, I.wr W⟩
theorem own_Ins_keep {C : String} {y : Addr} (K : Keep h h' ws) (I : Ins Z h y C true) : Ins Z h' y C true := by
  obtain ⟨cell, cT, h1, h2, h3⟩ := I
  obtain ⟨c', q, r1, r2, -⟩ := K.2.2 y cell h1
  exact ⟨c', cT, q, h2, by rw [r1, r2]; exact h3⟩
theorem own_El_keep (K : Keep h h' ws) (p : own_El Z h vs) : own_El Z h' vs := fun v hv => (p v hv).imp id fun ⟨y, q, I⟩ => ⟨y, q, own_Ins_keep K I⟩
theorem own_El_set (p : own_El Z h vs) (q : own_E1 Z h v) (i : Nat) : own_El Z h (vs.set i v) := fun u hu => (List.mem_or_eq_of_mem_set hu).elim (p u) (fun e => e ▸ q)
theorem own_El_getD (p : own_El Z h vs) (i : Nat) : own_E1 Z h (vs.getD i .null) := by
  rw [List.getD_eq_getElem?_getD]
  cases q : vs[i]? with
  | none => exact Or.inl rfl
  | some u => exact p u (List.mem_of_getElem? q)
theorem own_El_rep (n : Nat) : own_El Z h (List.replicate n .null) := fun v hv => Or.inl (List.mem_replicate.mp hv).2
theorem own_El_app (p : own_El Z h vs) (q : own_El Z h us) : own_El Z h (vs ++ us) := fun v hv => (List.mem_append.mp hv).elim (p v) (q v)
theorem own_El_drop (p : own_El Z h vs) (n : Nat) : own_El Z h (vs.drop n) := fun v hv => p v (List.mem_of_mem_drop hv)
theorem own_El_map (p : own_El Z h vs) (n k : Nat) : own_El Z h ((List.range n).map fun i => vs.getD (k + i) .null) := fun v hv => by
  obtain ⟨i, -, rfl⟩ := List.mem_map.mp hv; exact own_El_getD p _
theorem own_StoL {k : ClassId} {ty : FieldType} {z : Int32} {vd : List Value} {dv : Value} (A : Arv Z h a k ty z vd dv) (O : Ovr Z k "java/lang/Object") : ∀ us, own_El Z h us → StoL Z h a us
  | [], _ => trivial
  | u :: r, p => ⟨by
      obtain ⟨c, Ar, q, -⟩ := A
      rcases p u (List.mem_cons_self ..) with e | ⟨y, e, I⟩
      · exact Or.inl e
      · rw [e]; exact Sto.ofV Ar q O I, own_StoL A O r fun v hv => p v (List.mem_cons_of_mem _ hv)⟩
theorem own_arv_ne {b : Addr} {k k' : ClassId} {t t' : FieldType} {z z' : Int32} {d d' : Value} (A : Arv Z h a k t z vs d) (B : Arv Z h b k' t' z' us d') (q : t ≠ t') : a ≠ b := fun e => by
  subst e
  obtain ⟨c1, ⟨e1, ⟨-, k1, g1, m1, f1⟩, -⟩, -⟩ := A
  obtain ⟨c2, ⟨e2, ⟨-, k2, g2, m2, f2⟩, -⟩, -⟩ := B
  cases e1.symm.trans e2
  cases g1.symm.trans g2
  rw [f1] at f2; injection f2 with _ r; exact q r
theorem own_arv_ins {a0 : Array Value} {k : ClassId} {z : Int32} {d : Value} (w0 : (Cond.arrayClass FieldType.byte).before a0 Z = true) (wc : (Cond.castable "[B" "java/lang/Object").before a0 Z = true) (E : Exa Z h a "[B") : Ins Z h a "java/lang/Object" true := Ins.of_exa E wc
theorem own_sel {a0 : Array Value} {y : MethodName} {n : Nat} (w1 : (Cond.instantiable y.cls n).before a0 Z = true) (w2 : (Cond.privateMethod y).before a0 Z = true) (w3 : (Cond.instanceMethod y).before a0 Z = true) (hy : y.cls ≠ "java/lang/invoke/MethodHandle" ∧ y.cls ≠ "java/lang/invoke/VarHandle") : (Cond.selects y.cls y y).before a0 Z = true := by
  obtain ⟨c, k, h1, h2, h3, h4, -⟩ := Cond.instantiable_spec w1
  exact selects_self_of_private h1 h2 (Bool.or_eq_false_iff.mp h4).1 (Cond.privateMethod_at w2) w3 hy
end
/-- the list li: her array ed, of cap places, n of them taken -/
def own_Ls (Z : State) (n0 : Nat) (dc : Addr) (h : Heap) (li ed : Addr) (ke : ClassId) (cap n : Nat) (vs : List Value) (mc : Int32) : Prop :=
  Exa Z h li "java/util/ArrayList" ∧ Fld Z h li "java/util/ArrayList" "elementData" "[Ljava/lang/Object;" (.ref ed) ∧ Fld Z h li "java/util/ArrayList" "size" "I" (.int (Int32.ofNat n)) ∧ Fld Z h li "java/util/AbstractList" "modCount" "I" (.int mc) ∧
  Exa Z h ed "[Ljava/lang/Object;" ∧ Arv Z h ed ke (.object "java/lang/Object") (Int32.ofNat cap) vs .null ∧ own_El Z h vs ∧ vs.length = cap ∧ n ≤ cap ∧ ((cap = 0 ∧ ed = dc) ∨ ((cap = 10 ∨ cap = 15 ∨ cap = 22) ∧ n0 ≤ ed ∧ Ovr Z ke "java/lang/Object"))
section
variable {p : Program} {l : Launch} {e : Env} {R : Room} {s : State} {m : MethodId} {args : Array Value} {below : List Frame} {meth : Method} {c : Code} {T : State} {locs : List Loc} {cells slots : Nat} {Z : State} {h : Heap} {a : Addr}
/-- an array cell pushed on the heap: what the walk's facts say of it -/
theorem own_push {name : String} {ty : FieldType} {cA comp : ClassId} {kA : Class} {cl : Cell} (hZ : Z.Warmed39 s.vm) (h1 : s.vm.findClass name = some cA) (h2 : s.vm.classes[cA]? = some kA) (h3 : kA.kind = .array comp ty) (e1 : cl.cls = cA) (e2 : cl.vm = .none) :
    Ext h (h.push cl) ∧ Arr Z (h.push cl) h.size cl ty ∧ Exa Z (h.push cl) h.size name ∧ ∃ kZ, Z.vm.classes[cA]? = some kZ ∧ kZ.kind = .array comp ty := by
  have f1 : Z.vm.findClass name = some cA := (hZ.alike.findClass _ _).symm.trans h1
  have hk : ∃ kZ, Z.vm.classes[cA]? = some kZ ∧ kZ.kind = .array comp ty := by
    obtain ⟨kZ, z1, -⟩ := Vm.findClass_spec f1
    obtain ⟨k', z2, z3⟩ := hZ.alike.2.2 _ _ z1
    obtain rfl : kA = k' := Option.some.inj (h2.symm.trans z2)
    exact ⟨kZ, z1, by rw [z3] at h3; exact h3⟩
  obtain ⟨kZ, z1, hk⟩ := hk
  subst e1
  have hc : (h.push cl)[h.size]? = some cl := by simp
  refine ⟨⟨by simp, fun x q hq => ?_⟩, ⟨hc, ⟨fun q => by rw [e2]; nofun, kZ, z1, comp, hk⟩, by rw [e2]; nofun⟩, ⟨cl, kZ, hc, f1, z1, by rw [e2]; rfl, fun q => ?_⟩, kZ, z1, hk⟩
  · have hl := (Array.getElem?_eq_some_iff.mp hq).1
    rw [Array.getElem?_push, if_neg (Nat.ne_of_lt hl)]; exact hq
  · rw [hk] at q; cases q
theorem own_newR {a0 : Array Value} (X : Stand p l e R s m args below meth c T locs cells slots) (hx : p.tables.exec = Jvm.exec) (hZ : Z.Warmed39 s.vm) {own : String} {index : Nat} (hown : s.vm.findClass own = some m.cls) (w1 : (Cond.classLink own index "java/lang/Object").before a0 Z = true) (w2 : (Cond.arrayOver (.object "java/lang/Object")).before a0 Z = true)
    (eT : T.heap = h) {g : JFrame} (hg : g.method = m) (hd : decode c.code g.pc = .ok (.anewarray index, 3)) {n : Int32} {rest : List Value} (hs : g.stack = .int n :: rest) (hn : ¬ n < 0) {cap : Nat} (hcap : n.toNatClampNeg ≤ cap) (hb : cap * 8 ≤ 536870912) (hc : cells + 1 ≤ R.cells) (hl : slots + cap ≤ R.slots) :
    ∃ T' h' cA, Stand p l e R s m args below meth c T' locs (cells + 1) (slots + cap) ∧ T'.heap = h' ∧ Ext h h' ∧ Arr Z h' h.size (newA cA (.object "java/lang/Object") n) (.object "java/lang/Object") ∧ Ovr Z cA "java/lang/Object" ∧ Exa Z h' h.size "[Ljava/lang/Object;" ∧
      ∀ target, Steps p.tables e below (T'.setTop { g with pc := g.pc + 3, stack := .ref h.size :: rest }) target → Steps p.tables e below (T.setTop g) target := by
  obtain ⟨vm₁, cA, kA, comp, -, h1, h2, h3, h4, X', st⟩ := X.anewarrayRefK hx hown (mv hZ w1) (Cond.arrayOver_alike hZ.alike w2) hg hd hs hn (by omega) hc (by omega)
  obtain ⟨q1, q2, q3, kZ, z1, hk⟩ := own_push (h := T.heap) (cl := newA cA (.object "java/lang/Object") n) hZ h1 h2 h3 rfl rfl
  rw [eT] at st q1 q2 q3
  refine ⟨_, h.push (newA cA (.object "java/lang/Object") n), cA, X'.more (Nat.le_refl _) (by omega), ?_, q1, q2, ⟨kZ, comp, z1, hk, (hZ.alike.findClass _ _).symm.trans h4⟩, q3, st⟩
  show T.heap.push _ = _; rw [eT]; simp only [newA, defaultValue]
theorem own_ldcM {a0 : Array Value} (X : Stand p l e R s m args below meth c T locs cells slots) (hx : p.tables.exec = Jvm.exec) (hZ : Z.Warmed39 s.vm) {own C : String} {index : Nat} (hown : s.vm.findClass own = some m.cls) (w1 : (Cond.classLink own index C).before a0 Z = true) (eT : T.heap = h) {mr : Addr} (M : Mir Z C mr) {g : JFrame} (hg : g.method = m) (hd : decode c.code g.pc = .ok (.ldc index, 2)) :
    ∃ T', Stand p l e R s m args below meth c T' locs cells slots ∧ T'.heap = h ∧ ∀ target, Steps p.tables e below (T'.setTop { g with pc := g.pc + 2, stack := .ref mr :: g.stack }) target → Steps p.tables e below (T.setTop g) target := by
  obtain ⟨cc, kc, m1, m2, m3, -⟩ := M
  obtain ⟨k', q, ek⟩ := hZ.alike.2.2 _ _ m2
  have hev : (Term.mirror C).eval args s none [] s = some (.ref mr) := by
    simp only [Term.eval, Option.bind_eq_bind, Option.bind_eq_some_iff, Option.pure_def, Option.some.injEq]
    exact ⟨cc, by rw [hZ.alike.findClass]; exact m1, k', q, mr, by rw [ek]; exact m3, rfl⟩
  obtain ⟨vm', X', st⟩ := X.ldcMirror hx hown (mvT hZ w1) hev hg hd
  exact ⟨_, X', eT, st⟩
theorem own_gcls {a0 : Array Value} (X : Stand p l e R s m args below meth c T locs cells slots) (hx : p.tables.exec = Jvm.exec) (hZ : Z.Warmed39 s.vm) {own C : String} {index : Nat} (hown : s.vm.findClass own = some m.cls)
    (w1 : (Cond.methodLink own index ⟨"java/lang/Object", "getClass", "()Ljava/lang/Class;"⟩).before a0 Z = true) (w2 : (Cond.declares ⟨"java/lang/Object", "getClass", "()Ljava/lang/Class;"⟩).before a0 Z = true) (w4 : (Cond.selects C ⟨"java/lang/Object", "getClass", "()Ljava/lang/Class;"⟩ ⟨"java/lang/Object", "getClass", "()Ljava/lang/Class;"⟩).before a0 Z = true)
    (w5 : (Cond.instanceMethod ⟨"java/lang/Object", "getClass", "()Ljava/lang/Class;"⟩).before a0 Z = true) (w6 : (Cond.native ⟨"java/lang/Object", "getClass", "()Ljava/lang/Class;"⟩).before a0 Z = true) (eT : T.heap = h) (E : Exa Z h a C) {mr : Addr} (M : Mir Z C mr)
    {g : JFrame} (hg : g.method = m) (hsize : g.locals.size = c.maxLocals) {rest : List Value} (hs : g.stack = .ref a :: rest) (hd : decode c.code g.pc = .ok (.invokevirtual index, 3)) (hf : 1 ≤ R.frames) {W : Nat} (hW : 2 * g.monitorRoom + (rest.map fun v => v.category).sum ≤ W) (hl : W + (nativeFrameWords "java/lang/Object" "getClass" 1 + 11) ≤ R.locals) :
    ∃ T', Stand p l e R s m args below meth c T' locs cells slots ∧ T'.heap = h ∧ ∀ target, Steps p.tables e below (T'.setTop { g with pc := g.pc + 3, stack := .ref mr :: rest }) target → Steps p.tables e below (T.setTop g) target := by
  obtain ⟨cc, kc, m1, m2, m3, -⟩ := M
  have hf' : s.vm.findClass C = some cc := (hZ.alike.findClass _ _).trans m1
  have hrecv : IsOf cc T a := by
    obtain ⟨cB, -, i1, -, i3⟩ := isOf hZ eT E
    exact Option.some.inj (i1.symm.trans hf') ▸ i3
  have hk : ∃ k', s.vm.classes[cc]? = some k' ∧ k'.mirror = some mr := by obtain ⟨k', q, ek⟩ := hZ.alike.2.2 _ _ m2; exact ⟨k', q, by rw [ek]; exact m3⟩
  obtain ⟨k', q, hm⟩ := hk
  obtain ⟨vm', X', st⟩ := X.getClassOf hx hown (mvT hZ w1) (mvT hZ w2) (notFace_of_selects (args := #[]) (mvT hZ w4)) (mvT hZ w4) (mvT hZ w5) (mvT hZ w6) hf' hrecv q hm hg hsize hs hd hf (Nat.le_trans (Nat.add_le_add_right hW _) hl)
  exact ⟨_, X', eT, st⟩
end
def own_Ob (Z : State) (h : Heap) (ob li : Addr) (cb sz : Nat) : Prop := Exa Z h ob "com/example/cotab/cotab/ChunkedBytes" ∧ Fld Z h ob "com/example/cotab/cotab/ChunkedBytes" "chunks" "Ljava/util/List;" (.ref li) ∧ Fld Z h ob "com/example/cotab/cotab/ChunkedBytes" "chunkBytes" "I" (.int (Int32.ofNat cb)) ∧ Fld Z h ob "com/example/cotab/cotab/ChunkedBytes" "size" "I" (.int (Int32.ofNat sz))
theorem own_getset {vs : List Value} {n : Nat} {v : Value} (h : n < vs.length) : (vs.set n v).getD n .null = v := by simp [List.getD_eq_getElem?_getD, h]
def own_nx (gr cap cap2 : Nat) : Prop := (gr = 0 ∧ cap2 = cap) ∨ (gr = 22 ∧ ((cap = 0 ∧ cap2 = 10) ∨ (cap = 10 ∧ cap2 = 15) ∨ (cap = 15 ∧ cap2 = 22)))
section
variable {p : Program} {l : Launch} {e : Env} {R : Room} {s : State} {m : MethodId} {args : Array Value} {below : List Frame} {meth : Method} {c : Code} {T : State} {locs : List Loc} {cells slots : Nat} {Z : State} {h : Heap} {a : Addr}
theorem own_newB {a0 : Array Value} (X : Stand p l e R s m args below meth c T locs cells slots) (hx : p.tables.exec = Jvm.exec) (hZ : Z.Warmed39 s.vm) (w : (Cond.arrayClass FieldType.byte).before a0 Z = true) (eT : T.heap = h) {g : JFrame} (hg : g.method = m) (hd : decode c.code g.pc = .ok (.newarray .byte, 2)) {n : Int32} {rest : List Value} (hs : g.stack = .int n :: rest)
    (hn : ¬ n < 0) {cap : Nat} (hcap : n.toNatClampNeg ≤ cap) (hb : cap ≤ 1000) (hc : cells + 1 ≤ R.cells) (hl : slots + cap ≤ R.slots) :
    ∃ T' h' cA, Stand p l e R s m args below meth c T' locs (cells + 1) (slots + cap) ∧ T'.heap = h' ∧ Ext h h' ∧ Arr Z h' h.size (newA cA .byte n) .byte ∧ Exa Z h' h.size "[B" ∧
      ∀ target, Steps p.tables e below (T'.setTop { g with pc := g.pc + 2, stack := .ref h.size :: rest }) target → Steps p.tables e below (T.setTop g) target := by
  have hb8 : n.toNatClampNeg * componentBytes (newarray.typeOf .byte) ≤ 536870912 := by show n.toNatClampNeg * 1 ≤ 536870912; omega
  obtain ⟨cA, kA, comp, h1, h2, h3, X', st⟩ := X.newarrayPrim (atype := .byte) hx (mvA hZ w) hg hd hs hn hb8 hc (by omega)
  obtain ⟨q1, q2, q3, -⟩ := own_push (h := T.heap) (cl := newA cA .byte n) hZ h1 h2 h3 rfl rfl
  rw [eT] at st q1 q2 q3
  refine ⟨_, h.push (newA cA .byte n), cA, X'.more (Nat.le_refl _) (by omega), ?_, q1, q2, q3, st⟩
  show T.heap.push _ = _; rw [eT]; simp only [newA, newarray.typeOf]
end
theorem own_z (x : Int32) : (0 : Int32) + x = x := by simp
theorem own_min (a b : Nat) (ha : 1 ≤ a) (hb : 1 ≤ b) (ha4 : a ≤ 40) (hb4 : b ≤ 40) : ∃ mm, 1 ≤ mm ∧ mm ≤ a ∧ mm ≤ b ∧ ((Int32.ofNat b < Int32.ofNat a ∧ Int32.ofNat mm = Int32.ofNat b) ∨ (¬ Int32.ofNat b < Int32.ofNat a ∧ Int32.ofNat mm = Int32.ofNat a)) := by
  by_cases q : b < a
  · exact ⟨b, hb, by omega, by omega, Or.inl ⟨(own_lt b a hb4 ha4).mpr q, rfl⟩⟩
  · exact ⟨a, ha, by omega, by omega, Or.inr ⟨fun r => q ((own_lt b a hb4 ha4).mp r), rfl⟩⟩
theorem own_splen {bs us : List Value} {cb : Nat} (d k : Nat) (h : bs.length = cb) (hu : us.length = k) (hd : d + k ≤ cb) : (bs.take d ++ us ++ bs.drop (d + k)).length = cb := by
  simp only [List.length_append, List.length_take, List.length_drop, h, hu]; omega
def own_ix (cap : Nat) : Nat := if cap = 0 then 0 else if cap = 10 then 1 else if cap = 15 then 2 else 3
theorem own_ix_le (cap : Nat) : own_ix cap ≤ 3 := by unfold own_ix; split; omega; split; omega; split <;> omega
theorem own_ix_nx {gr cap cap2 : Nat} (h : own_nx gr cap cap2) : gr + 22 * own_ix cap ≤ 22 * own_ix cap2 := by
  rcases h with ⟨rfl, rfl⟩ | ⟨rfl, ⟨rfl, rfl⟩ | ⟨rfl, rfl⟩ | ⟨rfl, rfl⟩⟩
  · omega
  all_goals decide
theorem own_ix_gr {gr cap n : Nat} (hc : cap = 0 ∨ cap = 10 ∨ cap = 15 ∨ cap = 22) (h : (n < cap ∧ gr = 0) ∨ (n = cap ∧ n ≤ 16 ∧ gr = 22)) : gr + 22 * own_ix cap ≤ 66 := by
  have q := own_ix_le cap
  rcases h with ⟨-, rfl⟩ | ⟨rfl, h16, rfl⟩
  · omega
  · rcases hc with rfl | rfl | rfl | rfl
    · decide
    · decide
    · decide
    · omega
def own_Ck (Z : State) (h : Heap) (n0 cb : Nat) (da : Addr) (vs : List Value) (n rr : Nat) : Prop := rr = 0 ∨ ∃ ck kk bs, vs.getD (n - 1) .null = .ref ck ∧ Arv Z h ck kk .byte (Int32.ofNat cb) bs (.int (0 : Int32)) ∧ bs.length = cb ∧ ck ≠ da ∧ n0 ≤ ck
theorem own_len256 {s : State} {args : Array Value} {ca : Addr} {cc : Cell} {t : Term} {z : Int32} (et : t.eval args s none [] s = some (.ref ca)) (hfin : s.arrayAt? ca = some cc) (e1 : (Term.length t).eval args s none [] s = some (.int z)) : cc.slots.size < 2 ^ 31 ∧ cc.slots.size.toInt32 = z := by
  have hlt : cc.slots.size < 2 ^ 31 := by
    by_cases q : cc.slots.size < 2 ^ 31
    · exact q
    · have q' : ¬ cc.slots.size < 2147483648 := q
      simp [Term.eval, et, hfin, q'] at e1
  refine ⟨hlt, ?_⟩
  have e2 := len_f et hfin hlt
  rw [e2] at e1
  exact Value.int.inj (Option.some.inj e1)
theorem d40_0 : decode jdk_2038_method_1_code 0 = .ok (.aload_n 0, 1) := by decide +kernel
theorem d40_1 : decode jdk_2038_method_1_code 1 = .ok (.invokespecial 1, 3) := by decide +kernel
theorem d40_4 : decode jdk_2038_method_1_code 4 = .ok (.return_, 1) := by decide +kernel
theorem d41_0 : decode jdk_22_method_1_code 0 = .ok (.aload_n 0, 1) := by decide +kernel
theorem d41_1 : decode jdk_22_method_1_code 1 = .ok (.invokespecial 1, 3) := by decide +kernel
theorem d41_4 : decode jdk_22_method_1_code 4 = .ok (.return_, 1) := by decide +kernel
theorem d42_0 : decode jdk_39_method_1_code 0 = .ok (.aload_n 0, 1) := by decide +kernel
theorem d42_1 : decode jdk_39_method_1_code 1 = .ok (.invokespecial 1, 3) := by decide +kernel
theorem d42_4 : decode jdk_39_method_1_code 4 = .ok (.aload_n 0, 1) := by decide +kernel
theorem d42_5 : decode jdk_39_method_1_code 5 = .ok (.iconst 0, 1) := by decide +kernel
theorem d42_6 : decode jdk_39_method_1_code 6 = .ok (.putfield 7, 3) := by decide +kernel
theorem d42_9 : decode jdk_39_method_1_code 9 = .ok (.return_, 1) := by decide +kernel
theorem d43_0 : decode jdk_38_method_2_code 0 = .ok (.aload_n 0, 1) := by decide +kernel
theorem d43_1 : decode jdk_38_method_2_code 1 = .ok (.invokespecial 1, 3) := by decide +kernel
theorem d43_4 : decode jdk_38_method_2_code 4 = .ok (.aload_n 0, 1) := by decide +kernel
theorem d43_5 : decode jdk_38_method_2_code 5 = .ok (.getstatic 39, 3) := by decide +kernel
theorem d43_8 : decode jdk_38_method_2_code 8 = .ok (.putfield 9, 3) := by decide +kernel
theorem d43_11 : decode jdk_38_method_2_code 11 = .ok (.return_, 1) := by decide +kernel
theorem d44_0 : decode prog_2_method_1_code 0 = .ok (.aload_n 0, 1) := by decide +kernel
theorem d44_1 : decode prog_2_method_1_code 1 = .ok (.invokespecial 1, 3) := by decide +kernel
theorem d44_4 : decode prog_2_method_1_code 4 = .ok (.aload_n 0, 1) := by decide +kernel
theorem d44_5 : decode prog_2_method_1_code 5 = .ok (.new 7, 3) := by decide +kernel
theorem d44_8 : decode prog_2_method_1_code 8 = .ok (.dup, 1) := by decide +kernel
theorem d44_9 : decode prog_2_method_1_code 9 = .ok (.invokespecial 9, 3) := by decide +kernel
theorem d44_12 : decode prog_2_method_1_code 12 = .ok (.putfield 10, 3) := by decide +kernel
theorem d44_15 : decode prog_2_method_1_code 15 = .ok (.aload_n 0, 1) := by decide +kernel
theorem d44_16 : decode prog_2_method_1_code 16 = .ok (.iload_n 1, 1) := by decide +kernel
theorem d44_17 : decode prog_2_method_1_code 17 = .ok (.putfield 16, 3) := by decide +kernel
theorem d44_20 : decode prog_2_method_1_code 20 = .ok (.return_, 1) := by decide +kernel
theorem d45_0 : decode jdk_38_method_8_code 0 = .ok (.aload_n 0, 1) := by decide +kernel
theorem d45_1 : decode jdk_38_method_8_code 1 = .ok (.getfield 48, 3) := by decide +kernel
theorem d45_4 : decode jdk_38_method_8_code 4 = .ok (.ireturn, 1) := by decide +kernel
theorem d46_0 : decode prog_2_method_2_code 0 = .ok (.aload_n 0, 1) := by decide +kernel
theorem d46_1 : decode prog_2_method_2_code 1 = .ok (.getfield 20, 3) := by decide +kernel
theorem d46_4 : decode prog_2_method_2_code 4 = .ok (.ireturn, 1) := by decide +kernel
theorem d47_0 : decode jdk_41_method_11_code 0 = .ok (.iload_n 0, 1) := by decide +kernel
theorem d47_1 : decode jdk_41_method_11_code 1 = .ok (.ifCond .lt 8, 3) := by decide +kernel
theorem d47_4 : decode jdk_41_method_11_code 4 = .ok (.iload_n 0, 1) := by decide +kernel
theorem d47_5 : decode jdk_41_method_11_code 5 = .ok (.iload_n 1, 1) := by decide +kernel
theorem d47_6 : decode jdk_41_method_11_code 6 = .ok (.if_icmp .lt 10, 3) := by decide +kernel
theorem d47_16 : decode jdk_41_method_11_code 16 = .ok (.iload_n 0, 1) := by decide +kernel
theorem d47_17 : decode jdk_41_method_11_code 17 = .ok (.ireturn, 1) := by decide +kernel
theorem d48_0 : decode jdk_31_method_17_code 0 = .ok (.iload_n 0, 1) := by decide +kernel
theorem d48_1 : decode jdk_31_method_17_code 1 = .ok (.iload_n 1, 1) := by decide +kernel
theorem d48_2 : decode jdk_31_method_17_code 2 = .ok (.aconst_null, 1) := by decide +kernel
theorem d48_3 : decode jdk_31_method_17_code 3 = .ok (.invokestatic 105, 3) := by decide +kernel
theorem d48_6 : decode jdk_31_method_17_code 6 = .ok (.ireturn, 1) := by decide +kernel
theorem d49_0 : decode jdk_38_method_18_code 0 = .ok (.aload_n 0, 1) := by decide +kernel
theorem d49_1 : decode jdk_38_method_18_code 1 = .ok (.getfield 9, 3) := by decide +kernel
theorem d49_4 : decode jdk_38_method_18_code 4 = .ok (.iload_n 1, 1) := by decide +kernel
theorem d49_5 : decode jdk_38_method_18_code 5 = .ok (.aaload, 1) := by decide +kernel
theorem d49_6 : decode jdk_38_method_18_code 6 = .ok (.areturn, 1) := by decide +kernel
theorem d50_0 : decode jdk_38_method_20_code 0 = .ok (.iload_n 1, 1) := by decide +kernel
theorem d50_1 : decode jdk_38_method_20_code 1 = .ok (.aload_n 0, 1) := by decide +kernel
theorem d50_2 : decode jdk_38_method_20_code 2 = .ok (.getfield 48, 3) := by decide +kernel
theorem d50_5 : decode jdk_38_method_20_code 5 = .ok (.invokestatic 118, 3) := by decide +kernel
theorem d50_8 : decode jdk_38_method_20_code 8 = .ok (.pop, 1) := by decide +kernel
theorem d50_9 : decode jdk_38_method_20_code 9 = .ok (.aload_n 0, 1) := by decide +kernel
theorem d50_10 : decode jdk_38_method_20_code 10 = .ok (.iload_n 1, 1) := by decide +kernel
theorem d50_11 : decode jdk_38_method_20_code 11 = .ok (.invokevirtual 123, 3) := by decide +kernel
theorem d50_14 : decode jdk_38_method_20_code 14 = .ok (.areturn, 1) := by decide +kernel
theorem d51_0 : decode jdk_29_method_69_code 0 = .ok (.iload_n 0, 1) := by decide +kernel
theorem d51_1 : decode jdk_29_method_69_code 1 = .ok (.iload_n 1, 1) := by decide +kernel
theorem d51_2 : decode jdk_29_method_69_code 2 = .ok (.if_icmp .gt 7, 3) := by decide +kernel
theorem d51_5 : decode jdk_29_method_69_code 5 = .ok (.iload_n 0, 1) := by decide +kernel
theorem d51_6 : decode jdk_29_method_69_code 6 = .ok (.goto 4, 3) := by decide +kernel
theorem d51_9 : decode jdk_29_method_69_code 9 = .ok (.iload_n 1, 1) := by decide +kernel
theorem d51_10 : decode jdk_29_method_69_code 10 = .ok (.ireturn, 1) := by decide +kernel
theorem d52_0 : decode jdk_29_method_65_code 0 = .ok (.iload_n 0, 1) := by decide +kernel
theorem d52_1 : decode jdk_29_method_65_code 1 = .ok (.iload_n 1, 1) := by decide +kernel
theorem d52_2 : decode jdk_29_method_65_code 2 = .ok (.if_icmp .lt 7, 3) := by decide +kernel
theorem d52_5 : decode jdk_29_method_65_code 5 = .ok (.iload_n 0, 1) := by decide +kernel
theorem d52_6 : decode jdk_29_method_65_code 6 = .ok (.goto 4, 3) := by decide +kernel
theorem d52_9 : decode jdk_29_method_65_code 9 = .ok (.iload_n 1, 1) := by decide +kernel
theorem d52_10 : decode jdk_29_method_65_code 10 = .ok (.ireturn, 1) := by decide +kernel
theorem d60_0 : decode jdk_48_method_27_code 0 = .ok (.iload_n 0, 1) := by decide +kernel
theorem d60_1 : decode jdk_48_method_27_code 1 = .ok (.iload_n 1, 1) := by decide +kernel
theorem d60_2 : decode jdk_48_method_27_code 2 = .ok (.iload_n 2, 1) := by decide +kernel
theorem d60_3 : decode jdk_48_method_27_code 3 = .ok (.invokestatic 194, 3) := by decide +kernel
theorem d60_6 : decode jdk_48_method_27_code 6 = .ok (.iadd, 1) := by decide +kernel
theorem d60_7 : decode jdk_48_method_27_code 7 = .ok (.istore_n 3, 1) := by decide +kernel
theorem d60_8 : decode jdk_48_method_27_code 8 = .ok (.iconst 0, 1) := by decide +kernel
theorem d60_9 : decode jdk_48_method_27_code 9 = .ok (.iload_n 3, 1) := by decide +kernel
theorem d60_10 : decode jdk_48_method_27_code 10 = .ok (.if_icmp .ge 11, 3) := by decide +kernel
theorem d60_13 : decode jdk_48_method_27_code 13 = .ok (.iload_n 3, 1) := by decide +kernel
theorem d60_14 : decode jdk_48_method_27_code 14 = .ok (.ldc 200, 2) := by decide +kernel
theorem d60_16 : decode jdk_48_method_27_code 16 = .ok (.if_icmp .gt 5, 3) := by decide +kernel
theorem d60_19 : decode jdk_48_method_27_code 19 = .ok (.iload_n 3, 1) := by decide +kernel
theorem d60_20 : decode jdk_48_method_27_code 20 = .ok (.ireturn, 1) := by decide +kernel
theorem d61_0 : decode jdk_65_method_120_code 0 = .ok (.aload_n 2, 1) := by decide +kernel
theorem d61_1 : decode jdk_65_method_120_code 1 = .ok (.ldc 110, 2) := by decide +kernel
theorem d61_3 : decode jdk_65_method_120_code 3 = .ok (.if_acmp .ne 10, 3) := by decide +kernel
theorem d61_6 : decode jdk_65_method_120_code 6 = .ok (.iload_n 1, 1) := by decide +kernel
theorem d61_7 : decode jdk_65_method_120_code 7 = .ok (.anewarray 2, 3) := by decide +kernel
theorem d61_10 : decode jdk_65_method_120_code 10 = .ok (.goto 14, 3) := by decide +kernel
theorem d61_24 : decode jdk_65_method_120_code 24 = .ok (.astore_n 3, 1) := by decide +kernel
theorem d61_25 : decode jdk_65_method_120_code 25 = .ok (.aload_n 0, 1) := by decide +kernel
theorem d61_26 : decode jdk_65_method_120_code 26 = .ok (.iconst 0, 1) := by decide +kernel
theorem d61_27 : decode jdk_65_method_120_code 27 = .ok (.aload_n 3, 1) := by decide +kernel
theorem d61_28 : decode jdk_65_method_120_code 28 = .ok (.iconst 0, 1) := by decide +kernel
theorem d61_29 : decode jdk_65_method_120_code 29 = .ok (.aload_n 0, 1) := by decide +kernel
theorem d61_30 : decode jdk_65_method_120_code 30 = .ok (.arraylength, 1) := by decide +kernel
theorem d61_31 : decode jdk_65_method_120_code 31 = .ok (.iload_n 1, 1) := by decide +kernel
theorem d61_32 : decode jdk_65_method_120_code 32 = .ok (.invokestatic 304, 3) := by decide +kernel
theorem d61_35 : decode jdk_65_method_120_code 35 = .ok (.invokestatic 150, 3) := by decide +kernel
theorem d61_38 : decode jdk_65_method_120_code 38 = .ok (.aload_n 3, 1) := by decide +kernel
theorem d61_39 : decode jdk_65_method_120_code 39 = .ok (.areturn, 1) := by decide +kernel
theorem d62_0 : decode jdk_65_method_119_code 0 = .ok (.aload_n 0, 1) := by decide +kernel
theorem d62_1 : decode jdk_65_method_119_code 1 = .ok (.iload_n 1, 1) := by decide +kernel
theorem d62_2 : decode jdk_65_method_119_code 2 = .ok (.aload_n 0, 1) := by decide +kernel
theorem d62_3 : decode jdk_65_method_119_code 3 = .ok (.invokevirtual 86, 3) := by decide +kernel
theorem d62_6 : decode jdk_65_method_119_code 6 = .ok (.invokestatic 300, 3) := by decide +kernel
theorem d62_9 : decode jdk_65_method_119_code 9 = .ok (.areturn, 1) := by decide +kernel
theorem d63_0 : decode jdk_38_method_6_code 0 = .ok (.aload_n 0, 1) := by decide +kernel
theorem d63_1 : decode jdk_38_method_6_code 1 = .ok (.getfield 9, 3) := by decide +kernel
theorem d63_4 : decode jdk_38_method_6_code 4 = .ok (.arraylength, 1) := by decide +kernel
theorem d63_5 : decode jdk_38_method_6_code 5 = .ok (.istore_n 2, 1) := by decide +kernel
theorem d63_6 : decode jdk_38_method_6_code 6 = .ok (.iload_n 2, 1) := by decide +kernel
theorem d63_7 : decode jdk_38_method_6_code 7 = .ok (.ifCond .gt 13, 3) := by decide +kernel
theorem d63_10 : decode jdk_38_method_6_code 10 = .ok (.aload_n 0, 1) := by decide +kernel
theorem d63_11 : decode jdk_38_method_6_code 11 = .ok (.getfield 9, 3) := by decide +kernel
theorem d63_14 : decode jdk_38_method_6_code 14 = .ok (.getstatic 39, 3) := by decide +kernel
theorem d63_17 : decode jdk_38_method_6_code 17 = .ok (.if_acmp .eq 28, 3) := by decide +kernel
theorem d63_20 : decode jdk_38_method_6_code 20 = .ok (.iload_n 2, 1) := by decide +kernel
theorem d63_21 : decode jdk_38_method_6_code 21 = .ok (.iload_n 1, 1) := by decide +kernel
theorem d63_22 : decode jdk_38_method_6_code 22 = .ok (.iload_n 2, 1) := by decide +kernel
theorem d63_23 : decode jdk_38_method_6_code 23 = .ok (.isub, 1) := by decide +kernel
theorem d63_24 : decode jdk_38_method_6_code 24 = .ok (.iload_n 2, 1) := by decide +kernel
theorem d63_25 : decode jdk_38_method_6_code 25 = .ok (.iconst 1, 1) := by decide +kernel
theorem d63_26 : decode jdk_38_method_6_code 26 = .ok (.ishr, 1) := by decide +kernel
theorem d63_27 : decode jdk_38_method_6_code 27 = .ok (.invokestatic 73, 3) := by decide +kernel
theorem d63_30 : decode jdk_38_method_6_code 30 = .ok (.istore_n 3, 1) := by decide +kernel
theorem d63_31 : decode jdk_38_method_6_code 31 = .ok (.aload_n 0, 1) := by decide +kernel
theorem d63_32 : decode jdk_38_method_6_code 32 = .ok (.aload_n 0, 1) := by decide +kernel
theorem d63_33 : decode jdk_38_method_6_code 33 = .ok (.getfield 9, 3) := by decide +kernel
theorem d63_36 : decode jdk_38_method_6_code 36 = .ok (.iload_n 3, 1) := by decide +kernel
theorem d63_37 : decode jdk_38_method_6_code 37 = .ok (.invokestatic 66, 3) := by decide +kernel
theorem d63_40 : decode jdk_38_method_6_code 40 = .ok (.dup_x1, 1) := by decide +kernel
theorem d63_41 : decode jdk_38_method_6_code 41 = .ok (.putfield 9, 3) := by decide +kernel
theorem d63_44 : decode jdk_38_method_6_code 44 = .ok (.areturn, 1) := by decide +kernel
theorem d63_45 : decode jdk_38_method_6_code 45 = .ok (.aload_n 0, 1) := by decide +kernel
theorem d63_46 : decode jdk_38_method_6_code 46 = .ok (.bipush 10, 2) := by decide +kernel
theorem d63_48 : decode jdk_38_method_6_code 48 = .ok (.iload_n 1, 1) := by decide +kernel
theorem d63_49 : decode jdk_38_method_6_code 49 = .ok (.invokestatic 79, 3) := by decide +kernel
theorem d63_52 : decode jdk_38_method_6_code 52 = .ok (.anewarray 7, 3) := by decide +kernel
theorem d63_55 : decode jdk_38_method_6_code 55 = .ok (.dup_x1, 1) := by decide +kernel
theorem d63_56 : decode jdk_38_method_6_code 56 = .ok (.putfield 9, 3) := by decide +kernel
theorem d63_59 : decode jdk_38_method_6_code 59 = .ok (.areturn, 1) := by decide +kernel
theorem d64_0 : decode jdk_38_method_7_code 0 = .ok (.aload_n 0, 1) := by decide +kernel
theorem d64_1 : decode jdk_38_method_7_code 1 = .ok (.aload_n 0, 1) := by decide +kernel
theorem d64_2 : decode jdk_38_method_7_code 2 = .ok (.getfield 48, 3) := by decide +kernel
theorem d64_5 : decode jdk_38_method_7_code 5 = .ok (.iconst 1, 1) := by decide +kernel
theorem d64_6 : decode jdk_38_method_7_code 6 = .ok (.iadd, 1) := by decide +kernel
theorem d64_7 : decode jdk_38_method_7_code 7 = .ok (.invokevirtual 69, 3) := by decide +kernel
theorem d64_10 : decode jdk_38_method_7_code 10 = .ok (.areturn, 1) := by decide +kernel
theorem d70_0 : decode jdk_38_method_24_code 0 = .ok (.iload_n 3, 1) := by decide +kernel
theorem d70_1 : decode jdk_38_method_24_code 1 = .ok (.aload_n 2, 1) := by decide +kernel
theorem d70_2 : decode jdk_38_method_24_code 2 = .ok (.arraylength, 1) := by decide +kernel
theorem d70_3 : decode jdk_38_method_24_code 3 = .ok (.if_icmp .ne 8, 3) := by decide +kernel
theorem d70_6 : decode jdk_38_method_24_code 6 = .ok (.aload_n 0, 1) := by decide +kernel
theorem d70_7 : decode jdk_38_method_24_code 7 = .ok (.invokevirtual 129, 3) := by decide +kernel
theorem d70_10 : decode jdk_38_method_24_code 10 = .ok (.astore_n 2, 1) := by decide +kernel
theorem d70_11 : decode jdk_38_method_24_code 11 = .ok (.aload_n 2, 1) := by decide +kernel
theorem d70_12 : decode jdk_38_method_24_code 12 = .ok (.iload_n 3, 1) := by decide +kernel
theorem d70_13 : decode jdk_38_method_24_code 13 = .ok (.aload_n 1, 1) := by decide +kernel
theorem d70_14 : decode jdk_38_method_24_code 14 = .ok (.aastore, 1) := by decide +kernel
theorem d70_15 : decode jdk_38_method_24_code 15 = .ok (.aload_n 0, 1) := by decide +kernel
theorem d70_16 : decode jdk_38_method_24_code 16 = .ok (.iload_n 3, 1) := by decide +kernel
theorem d70_17 : decode jdk_38_method_24_code 17 = .ok (.iconst 1, 1) := by decide +kernel
theorem d70_18 : decode jdk_38_method_24_code 18 = .ok (.iadd, 1) := by decide +kernel
theorem d70_19 : decode jdk_38_method_24_code 19 = .ok (.putfield 48, 3) := by decide +kernel
theorem d70_22 : decode jdk_38_method_24_code 22 = .ok (.return_, 1) := by decide +kernel
theorem d71_0 : decode jdk_38_method_25_code 0 = .ok (.aload_n 0, 1) := by decide +kernel
theorem d71_1 : decode jdk_38_method_25_code 1 = .ok (.dup, 1) := by decide +kernel
theorem d71_2 : decode jdk_38_method_25_code 2 = .ok (.getfield 63, 3) := by decide +kernel
theorem d71_5 : decode jdk_38_method_25_code 5 = .ok (.iconst 1, 1) := by decide +kernel
theorem d71_6 : decode jdk_38_method_25_code 6 = .ok (.iadd, 1) := by decide +kernel
theorem d71_7 : decode jdk_38_method_25_code 7 = .ok (.putfield 63, 3) := by decide +kernel
theorem d71_10 : decode jdk_38_method_25_code 10 = .ok (.aload_n 0, 1) := by decide +kernel
theorem d71_11 : decode jdk_38_method_25_code 11 = .ok (.aload_n 1, 1) := by decide +kernel
theorem d71_12 : decode jdk_38_method_25_code 12 = .ok (.aload_n 0, 1) := by decide +kernel
theorem d71_13 : decode jdk_38_method_25_code 13 = .ok (.getfield 9, 3) := by decide +kernel
theorem d71_16 : decode jdk_38_method_25_code 16 = .ok (.aload_n 0, 1) := by decide +kernel
theorem d71_17 : decode jdk_38_method_25_code 17 = .ok (.getfield 48, 3) := by decide +kernel
theorem d71_20 : decode jdk_38_method_25_code 20 = .ok (.invokevirtual 131, 3) := by decide +kernel
theorem d71_23 : decode jdk_38_method_25_code 23 = .ok (.iconst 1, 1) := by decide +kernel
theorem d71_24 : decode jdk_38_method_25_code 24 = .ok (.ireturn, 1) := by decide +kernel
theorem d72_0 : decode prog_2_method_9_code 0 = .ok (.aload_n 0, 1) := by decide +kernel
theorem d72_1 : decode prog_2_method_9_code 1 = .ok (.getfield 10, 3) := by decide +kernel
theorem d72_4 : decode prog_2_method_9_code 4 = .ok (.invokeinterface 27 1, 5) := by decide +kernel
theorem d72_9 : decode prog_2_method_9_code 9 = .ok (.aload_n 0, 1) := by decide +kernel
theorem d72_10 : decode prog_2_method_9_code 10 = .ok (.getfield 16, 3) := by decide +kernel
theorem d72_13 : decode prog_2_method_9_code 13 = .ok (.imul, 1) := by decide +kernel
theorem d72_14 : decode prog_2_method_9_code 14 = .ok (.aload_n 0, 1) := by decide +kernel
theorem d72_15 : decode prog_2_method_9_code 15 = .ok (.getfield 20, 3) := by decide +kernel
theorem d72_18 : decode prog_2_method_9_code 18 = .ok (.isub, 1) := by decide +kernel
theorem d72_19 : decode prog_2_method_9_code 19 = .ok (.istore_n 1, 1) := by decide +kernel
theorem d72_20 : decode prog_2_method_9_code 20 = .ok (.iload_n 1, 1) := by decide +kernel
theorem d72_21 : decode prog_2_method_9_code 21 = .ok (.ifCond .ne 24, 3) := by decide +kernel
theorem d72_24 : decode prog_2_method_9_code 24 = .ok (.aload_n 0, 1) := by decide +kernel
theorem d72_25 : decode prog_2_method_9_code 25 = .ok (.getfield 10, 3) := by decide +kernel
theorem d72_28 : decode prog_2_method_9_code 28 = .ok (.aload_n 0, 1) := by decide +kernel
theorem d72_29 : decode prog_2_method_9_code 29 = .ok (.getfield 16, 3) := by decide +kernel
theorem d72_32 : decode prog_2_method_9_code 32 = .ok (.newarray .byte, 2) := by decide +kernel
theorem d72_34 : decode prog_2_method_9_code 34 = .ok (.invokeinterface 67 2, 5) := by decide +kernel
theorem d72_39 : decode prog_2_method_9_code 39 = .ok (.pop, 1) := by decide +kernel
theorem d72_40 : decode prog_2_method_9_code 40 = .ok (.aload_n 0, 1) := by decide +kernel
theorem d72_41 : decode prog_2_method_9_code 41 = .ok (.getfield 16, 3) := by decide +kernel
theorem d72_44 : decode prog_2_method_9_code 44 = .ok (.istore_n 1, 1) := by decide +kernel
theorem d72_45 : decode prog_2_method_9_code 45 = .ok (.iload_n 1, 1) := by decide +kernel
theorem d72_46 : decode prog_2_method_9_code 46 = .ok (.ireturn, 1) := by decide +kernel
theorem d74_0 : decode prog_2_method_4_code 0 = .ok (.aload_n 0, 1) := by decide +kernel
theorem d74_1 : decode prog_2_method_4_code 1 = .ok (.invokevirtual 23, 3) := by decide +kernel
theorem d74_4 : decode prog_2_method_4_code 4 = .ok (.istore_n 2, 1) := by decide +kernel
theorem d74_5 : decode prog_2_method_4_code 5 = .ok (.aload_n 0, 1) := by decide +kernel
theorem d74_6 : decode prog_2_method_4_code 6 = .ok (.getfield 10, 3) := by decide +kernel
theorem d74_9 : decode prog_2_method_4_code 9 = .ok (.aload_n 0, 1) := by decide +kernel
theorem d74_10 : decode prog_2_method_4_code 10 = .ok (.getfield 10, 3) := by decide +kernel
theorem d74_13 : decode prog_2_method_4_code 13 = .ok (.invokeinterface 27 1, 5) := by decide +kernel
theorem d74_18 : decode prog_2_method_4_code 18 = .ok (.iconst 1, 1) := by decide +kernel
theorem d74_19 : decode prog_2_method_4_code 19 = .ok (.isub, 1) := by decide +kernel
theorem d74_20 : decode prog_2_method_4_code 20 = .ok (.invokeinterface 31 2, 5) := by decide +kernel
theorem d74_25 : decode prog_2_method_4_code 25 = .ok (.checkcast 35, 3) := by decide +kernel
theorem d74_28 : decode prog_2_method_4_code 28 = .ok (.aload_n 0, 1) := by decide +kernel
theorem d74_29 : decode prog_2_method_4_code 29 = .ok (.getfield 16, 3) := by decide +kernel
theorem d74_32 : decode prog_2_method_4_code 32 = .ok (.iload_n 2, 1) := by decide +kernel
theorem d74_33 : decode prog_2_method_4_code 33 = .ok (.isub, 1) := by decide +kernel
theorem d74_34 : decode prog_2_method_4_code 34 = .ok (.iload_n 1, 1) := by decide +kernel
theorem d74_35 : decode prog_2_method_4_code 35 = .ok (.i2b, 1) := by decide +kernel
theorem d74_36 : decode prog_2_method_4_code 36 = .ok (.bastore, 1) := by decide +kernel
theorem d74_37 : decode prog_2_method_4_code 37 = .ok (.aload_n 0, 1) := by decide +kernel
theorem d74_38 : decode prog_2_method_4_code 38 = .ok (.dup, 1) := by decide +kernel
theorem d74_39 : decode prog_2_method_4_code 39 = .ok (.getfield 20, 3) := by decide +kernel
theorem d74_42 : decode prog_2_method_4_code 42 = .ok (.iconst 1, 1) := by decide +kernel
theorem d74_43 : decode prog_2_method_4_code 43 = .ok (.iadd, 1) := by decide +kernel
theorem d74_44 : decode prog_2_method_4_code 44 = .ok (.putfield 20, 3) := by decide +kernel
theorem d74_47 : decode prog_2_method_4_code 47 = .ok (.return_, 1) := by decide +kernel
theorem d75_0 : decode prog_2_method_5_code 0 = .ok (.iload_n 2, 1) := by decide +kernel
theorem d75_1 : decode prog_2_method_5_code 1 = .ok (.istore 4, 2) := by decide +kernel
theorem d75_3 : decode prog_2_method_5_code 3 = .ok (.iload 4, 2) := by decide +kernel
theorem d75_5 : decode prog_2_method_5_code 5 = .ok (.iload_n 2, 1) := by decide +kernel
theorem d75_6 : decode prog_2_method_5_code 6 = .ok (.iload_n 3, 1) := by decide +kernel
theorem d75_7 : decode prog_2_method_5_code 7 = .ok (.iadd, 1) := by decide +kernel
theorem d75_8 : decode prog_2_method_5_code 8 = .ok (.if_icmp .ge 78, 3) := by decide +kernel
theorem d75_11 : decode prog_2_method_5_code 11 = .ok (.aload_n 0, 1) := by decide +kernel
theorem d75_12 : decode prog_2_method_5_code 12 = .ok (.invokevirtual 23, 3) := by decide +kernel
theorem d75_15 : decode prog_2_method_5_code 15 = .ok (.istore 5, 2) := by decide +kernel
theorem d75_17 : decode prog_2_method_5_code 17 = .ok (.iload 5, 2) := by decide +kernel
theorem d75_19 : decode prog_2_method_5_code 19 = .ok (.iload_n 2, 1) := by decide +kernel
theorem d75_20 : decode prog_2_method_5_code 20 = .ok (.iload_n 3, 1) := by decide +kernel
theorem d75_21 : decode prog_2_method_5_code 21 = .ok (.iadd, 1) := by decide +kernel
theorem d75_22 : decode prog_2_method_5_code 22 = .ok (.iload 4, 2) := by decide +kernel
theorem d75_24 : decode prog_2_method_5_code 24 = .ok (.isub, 1) := by decide +kernel
theorem d75_25 : decode prog_2_method_5_code 25 = .ok (.invokestatic 37, 3) := by decide +kernel
theorem d75_28 : decode prog_2_method_5_code 28 = .ok (.istore 6, 2) := by decide +kernel
theorem d75_30 : decode prog_2_method_5_code 30 = .ok (.aload_n 1, 1) := by decide +kernel
theorem d75_31 : decode prog_2_method_5_code 31 = .ok (.iload 4, 2) := by decide +kernel
theorem d75_33 : decode prog_2_method_5_code 33 = .ok (.aload_n 0, 1) := by decide +kernel
theorem d75_34 : decode prog_2_method_5_code 34 = .ok (.getfield 10, 3) := by decide +kernel
theorem d75_37 : decode prog_2_method_5_code 37 = .ok (.aload_n 0, 1) := by decide +kernel
theorem d75_38 : decode prog_2_method_5_code 38 = .ok (.getfield 10, 3) := by decide +kernel
theorem d75_41 : decode prog_2_method_5_code 41 = .ok (.invokeinterface 27 1, 5) := by decide +kernel
theorem d75_46 : decode prog_2_method_5_code 46 = .ok (.iconst 1, 1) := by decide +kernel
theorem d75_47 : decode prog_2_method_5_code 47 = .ok (.isub, 1) := by decide +kernel
theorem d75_48 : decode prog_2_method_5_code 48 = .ok (.invokeinterface 31 2, 5) := by decide +kernel
theorem d75_53 : decode prog_2_method_5_code 53 = .ok (.aload_n 0, 1) := by decide +kernel
theorem d75_54 : decode prog_2_method_5_code 54 = .ok (.getfield 16, 3) := by decide +kernel
theorem d75_57 : decode prog_2_method_5_code 57 = .ok (.iload 5, 2) := by decide +kernel
theorem d75_59 : decode prog_2_method_5_code 59 = .ok (.isub, 1) := by decide +kernel
theorem d75_60 : decode prog_2_method_5_code 60 = .ok (.iload 6, 2) := by decide +kernel
theorem d75_62 : decode prog_2_method_5_code 62 = .ok (.invokestatic 52, 3) := by decide +kernel
theorem d75_65 : decode prog_2_method_5_code 65 = .ok (.aload_n 0, 1) := by decide +kernel
theorem d75_66 : decode prog_2_method_5_code 66 = .ok (.dup, 1) := by decide +kernel
theorem d75_67 : decode prog_2_method_5_code 67 = .ok (.getfield 20, 3) := by decide +kernel
theorem d75_70 : decode prog_2_method_5_code 70 = .ok (.iload 6, 2) := by decide +kernel
theorem d75_72 : decode prog_2_method_5_code 72 = .ok (.iadd, 1) := by decide +kernel
theorem d75_73 : decode prog_2_method_5_code 73 = .ok (.putfield 20, 3) := by decide +kernel
theorem d75_76 : decode prog_2_method_5_code 76 = .ok (.iload 4, 2) := by decide +kernel
theorem d75_78 : decode prog_2_method_5_code 78 = .ok (.iload 6, 2) := by decide +kernel
theorem d75_80 : decode prog_2_method_5_code 80 = .ok (.iadd, 1) := by decide +kernel
theorem d75_81 : decode prog_2_method_5_code 81 = .ok (.istore 4, 2) := by decide +kernel
theorem d75_83 : decode prog_2_method_5_code 83 = .ok (.goto (-80), 3) := by decide +kernel
theorem d75_86 : decode prog_2_method_5_code 86 = .ok (.return_, 1) := by decide +kernel
theorem d76_0 : decode jdk_38_method_40_code 0 = .ok (.aload_n 0, 1) := by decide +kernel
theorem d76_1 : decode jdk_38_method_40_code 1 = .ok (.dup, 1) := by decide +kernel
theorem d76_2 : decode jdk_38_method_40_code 2 = .ok (.getfield 63, 3) := by decide +kernel
theorem d76_5 : decode jdk_38_method_40_code 5 = .ok (.iconst 1, 1) := by decide +kernel
theorem d76_6 : decode jdk_38_method_40_code 6 = .ok (.iadd, 1) := by decide +kernel
theorem d76_7 : decode jdk_38_method_40_code 7 = .ok (.putfield 63, 3) := by decide +kernel
theorem d76_10 : decode jdk_38_method_40_code 10 = .ok (.aload_n 0, 1) := by decide +kernel
theorem d76_11 : decode jdk_38_method_40_code 11 = .ok (.getfield 9, 3) := by decide +kernel
theorem d76_14 : decode jdk_38_method_40_code 14 = .ok (.astore_n 1, 1) := by decide +kernel
theorem d76_15 : decode jdk_38_method_40_code 15 = .ok (.aload_n 0, 1) := by decide +kernel
theorem d76_16 : decode jdk_38_method_40_code 16 = .ok (.getfield 48, 3) := by decide +kernel
theorem d76_19 : decode jdk_38_method_40_code 19 = .ok (.istore_n 2, 1) := by decide +kernel
theorem d76_20 : decode jdk_38_method_40_code 20 = .ok (.aload_n 0, 1) := by decide +kernel
theorem d76_21 : decode jdk_38_method_40_code 21 = .ok (.iconst 0, 1) := by decide +kernel
theorem d76_22 : decode jdk_38_method_40_code 22 = .ok (.dup_x1, 1) := by decide +kernel
theorem d76_23 : decode jdk_38_method_40_code 23 = .ok (.putfield 48, 3) := by decide +kernel
theorem d76_26 : decode jdk_38_method_40_code 26 = .ok (.istore_n 3, 1) := by decide +kernel
theorem d76_27 : decode jdk_38_method_40_code 27 = .ok (.iload_n 3, 1) := by decide +kernel
theorem d76_28 : decode jdk_38_method_40_code 28 = .ok (.iload_n 2, 1) := by decide +kernel
theorem d76_29 : decode jdk_38_method_40_code 29 = .ok (.if_icmp .ge 13, 3) := by decide +kernel
theorem d76_32 : decode jdk_38_method_40_code 32 = .ok (.aload_n 1, 1) := by decide +kernel
theorem d76_33 : decode jdk_38_method_40_code 33 = .ok (.iload_n 3, 1) := by decide +kernel
theorem d76_34 : decode jdk_38_method_40_code 34 = .ok (.aconst_null, 1) := by decide +kernel
theorem d76_35 : decode jdk_38_method_40_code 35 = .ok (.aastore, 1) := by decide +kernel
theorem d76_36 : decode jdk_38_method_40_code 36 = .ok (.iinc 3 1, 3) := by decide +kernel
theorem d76_39 : decode jdk_38_method_40_code 39 = .ok (.goto (-12), 3) := by decide +kernel
theorem d76_42 : decode jdk_38_method_40_code 42 = .ok (.return_, 1) := by decide +kernel
theorem d77_0 : decode prog_2_method_8_code 0 = .ok (.aload_n 0, 1) := by decide +kernel
theorem d77_1 : decode prog_2_method_8_code 1 = .ok (.getfield 10, 3) := by decide +kernel
theorem d77_4 : decode prog_2_method_8_code 4 = .ok (.invokeinterface 91 1, 5) := by decide +kernel
theorem d77_9 : decode prog_2_method_8_code 9 = .ok (.aload_n 0, 1) := by decide +kernel
theorem d77_10 : decode prog_2_method_8_code 10 = .ok (.iconst 0, 1) := by decide +kernel
theorem d77_11 : decode prog_2_method_8_code 11 = .ok (.putfield 20, 3) := by decide +kernel
theorem d77_14 : decode prog_2_method_8_code 14 = .ok (.return_, 1) := by decide +kernel
theorem pd_0 : parseMethodDescriptor "()V" = some ⟨[], none⟩ := by decide +kernel
theorem pd_1 : parseMethodDescriptor "(IILjava/util/function/BiFunction;)I" = some ⟨[.int, .int, (.object "java/util/function/BiFunction")], some .int⟩ := by decide +kernel
theorem pd_2 : parseMethodDescriptor "(II)I" = some ⟨[.int, .int], some .int⟩ := by decide +kernel
theorem pd_3 : parseMethodDescriptor "(I)Ljava/lang/Object;" = some ⟨[.int], some (.object "java/lang/Object")⟩ := by decide +kernel
theorem pd_4 : parseMethodDescriptor "([Ljava/lang/Object;ILjava/lang/Class;)[Ljava/lang/Object;" = some ⟨[(.array (.object "java/lang/Object")), .int, (.object "java/lang/Class")], some (.array (.object "java/lang/Object"))⟩ := by decide +kernel
theorem pd_5 : parseMethodDescriptor "(III)I" = some ⟨[.int, .int, .int], some .int⟩ := by decide +kernel
theorem pd_6 : parseMethodDescriptor "([Ljava/lang/Object;I)[Ljava/lang/Object;" = some ⟨[(.array (.object "java/lang/Object")), .int], some (.array (.object "java/lang/Object"))⟩ := by decide +kernel
theorem pd_7 : parseMethodDescriptor "(I)[Ljava/lang/Object;" = some ⟨[.int], some (.array (.object "java/lang/Object"))⟩ := by decide +kernel
theorem pd_8 : parseMethodDescriptor "()[Ljava/lang/Object;" = some ⟨[], some (.array (.object "java/lang/Object"))⟩ := by decide +kernel
theorem pd_9 : parseMethodDescriptor "(Ljava/lang/Object;[Ljava/lang/Object;I)V" = some ⟨[(.object "java/lang/Object"), (.array (.object "java/lang/Object")), .int], none⟩ := by decide +kernel
theorem pd_10 : parseMethodDescriptor "()I" = some ⟨[], some .int⟩ := by decide +kernel
theorem pd_11 : parseMethodDescriptor "(Ljava/lang/Object;)Z" = some ⟨[(.object "java/lang/Object")], some .boolean⟩ := by decide +kernel
theorem pd_12 : parseMethodDescriptor "(I)V" = some ⟨[.int], none⟩ := by decide +kernel
theorem pd_13 : parseMethodDescriptor "([BII)V" = some ⟨[(.array .byte), .int, .int], none⟩ := by decide +kernel
theorem pn_40 : plainName "java/io/OutputStream" = true := by first | (simp [plainName, overriddenIn]; done) | decide +kernel
theorem ef_40 (m : MethodId) (x0 : Addr) : entryFrame m #[(.ref x0)] 1 = mkF m 0 #[.val (.ref x0)] [] := by first | (simp [entryFrame, mkF, argsToLocals, Value.category]; done) | rfl
def Q40 (Z : State) (ob : Addr) (h0 : Heap) (n0 : Nat) (v : Option Value) (h : Heap) (L : List Loc) : Prop := v = none ∧ Fr n0 L ∧ h = h0
set_option maxRecDepth 65536 in
set_option maxHeartbeats 40000000 in
theorem rm40 (l : Launch) (Z : State) (a0 : Array Value) (hw : ∀ d ∈ tables_1, d.before a0 Z = true) (ws : List Jvm.Cond) (ob : Addr) (h0 : Heap) (n0 : Nat) (Z0 : n0 ≤ h0.size)  :
    MetFree l (⟨"java/io/OutputStream", "<init>", "()V"⟩ : MethodName) (head1 (Jvm.Cond.code (⟨"java/io/OutputStream", "<init>", "()V"⟩ : MethodName) jdk_2038_method_1_code 1 none :: ws) ({ frames := 1, cells := 0, slots := 0, locals := 12 } : Room)) (fun a U => a = #[(.ref ob)] ∧ Z.Warmed39 U.vm ∧ U.heap = h0) (fun _ _ _ _ _ => True) (fun _ U o U' => ∃ v L, o = .returned v ∧ Q40 Z ob h0 n0 v U'.heap L ∧ FrameEnd U o U' L ({ frames := 1, cells := 0, slots := 0, locals := 12 } : Room).cells ({ frames := 1, cells := 0, slots := 0, locals := 12 } : Room).slots) := by
  refine MetFree.of_bodySF (plainFor_of_name pn_40) hisR ?_
  intro p e s m args below meth c s₁ Bd hml0 hP hK
  obtain ⟨rfl, hZ, hh⟩ := hP
  have hx := Bd.exec
  have hby := Bd.bytes
  have hml : c.maxLocals = 1 := hml0
  have hown : s.vm.findClass "java/io/OutputStream" = some m.cls := findClass_of_methodNamed Bd.named
  have hnm := (name_of_methodNamed Bd.named Bd.method).1
  have X0 : Stand p l e ({ frames := 1, cells := 0, slots := 0, locals := 12 } : Room) s m #[(.ref ob)] below meth c s₁ [] 0 0 := Stand.of_body Bd
  have e0 : s₁.heap = h0 := by rw [← hh, Bd.state]; rfl
  have N0 := Fr.nil n0
  refine Gl.gen fun P hPost => ?_
  refine Gl.st (fun _ k => castTop (ef_40 m ob ) k) ?_
  show Gl p e below P (s₁.setTop (mkF m 0 #[.val (.ref ob)] []))
  refine Gl.st (fun _ k => XS.aloadN X0.here hx rfl (hb hby d40_0) rfl rfl k) ?_
  show Gl p e below P (s₁.setTop (mkF m 1 #[.val (.ref ob)] [(.ref ob)]))
  obtain ⟨T1, X1, e1, st1⟩ := initO X0 hx hZ hown (hw _ (List.mem_of_getElem? (i := 12) rfl)) (hw _ (List.mem_of_getElem? (i := 13) rfl)) (hw _ (List.mem_of_getElem? (i := 14) rfl)) e0 (g := (mkF m 1 #[.val (.ref ob)] [(.ref ob)])) rfl (by rw [hml]; rfl) rfl (hb hby d40_1) (by decide) (W := 0) (by show 2 * 0 + _ ≤ _; exact Nat.le_of_eq rfl) (by decide)
  refine Gl.st st1 ?_
  show Gl p e below P (T1.setTop (mkF m 4 #[.val (.ref ob)] []))
  obtain ⟨fs, hr, hrun, hended, hW, hsame⟩ := X1.leave (v := none) (fun _ => rfl)
  refine ⟨_, _, X1.returnOut hx Bd.returns (hb hby d40_4) hr, hrun, hended, hPost _ _ ⟨_, _, rfl, ?_, ⟨_, rfl⟩, hW, hsame.mono (by decide) (by decide)⟩⟩
  show Q40 Z ob h0 n0 _ T1.heap _
  rw [e1]
  exact ⟨rfl, N0, rfl⟩
theorem pn_41 : plainName "java/util/AbstractCollection" = true := by first | (simp [plainName, overriddenIn]; done) | decide +kernel
theorem ef_41 (m : MethodId) (x0 : Addr) : entryFrame m #[(.ref x0)] 1 = mkF m 0 #[.val (.ref x0)] [] := by first | (simp [entryFrame, mkF, argsToLocals, Value.category]; done) | rfl
def Q41 (Z : State) (ob : Addr) (h0 : Heap) (n0 : Nat) (v : Option Value) (h : Heap) (L : List Loc) : Prop := v = none ∧ Fr n0 L ∧ h = h0
set_option maxRecDepth 65536 in
set_option maxHeartbeats 40000000 in
theorem rm41 (l : Launch) (Z : State) (a0 : Array Value) (hw : ∀ d ∈ tables_1, d.before a0 Z = true) (ws : List Jvm.Cond) (ob : Addr) (h0 : Heap) (n0 : Nat) (Z0 : n0 ≤ h0.size)  :
    MetFree l (⟨"java/util/AbstractCollection", "<init>", "()V"⟩ : MethodName) (head1 (Jvm.Cond.code (⟨"java/util/AbstractCollection", "<init>", "()V"⟩ : MethodName) jdk_22_method_1_code 1 none :: ws) ({ frames := 1, cells := 0, slots := 0, locals := 12 } : Room)) (fun a U => a = #[(.ref ob)] ∧ Z.Warmed39 U.vm ∧ U.heap = h0) (fun _ _ _ _ _ => True) (fun _ U o U' => ∃ v L, o = .returned v ∧ Q41 Z ob h0 n0 v U'.heap L ∧ FrameEnd U o U' L ({ frames := 1, cells := 0, slots := 0, locals := 12 } : Room).cells ({ frames := 1, cells := 0, slots := 0, locals := 12 } : Room).slots) := by
  refine MetFree.of_bodySF (plainFor_of_name pn_41) hisR ?_
  intro p e s m args below meth c s₁ Bd hml0 hP hK
  obtain ⟨rfl, hZ, hh⟩ := hP
  have hx := Bd.exec
  have hby := Bd.bytes
  have hml : c.maxLocals = 1 := hml0
  have hown : s.vm.findClass "java/util/AbstractCollection" = some m.cls := findClass_of_methodNamed Bd.named
  have hnm := (name_of_methodNamed Bd.named Bd.method).1
  have X0 : Stand p l e ({ frames := 1, cells := 0, slots := 0, locals := 12 } : Room) s m #[(.ref ob)] below meth c s₁ [] 0 0 := Stand.of_body Bd
  have e0 : s₁.heap = h0 := by rw [← hh, Bd.state]; rfl
  have N0 := Fr.nil n0
  refine Gl.gen fun P hPost => ?_
  refine Gl.st (fun _ k => castTop (ef_41 m ob ) k) ?_
  show Gl p e below P (s₁.setTop (mkF m 0 #[.val (.ref ob)] []))
  refine Gl.st (fun _ k => XS.aloadN X0.here hx rfl (hb hby d41_0) rfl rfl k) ?_
  show Gl p e below P (s₁.setTop (mkF m 1 #[.val (.ref ob)] [(.ref ob)]))
  obtain ⟨T1, X1, e1, st1⟩ := initO X0 hx hZ hown (hw _ (List.mem_of_getElem? (i := 33) rfl)) (hw _ (List.mem_of_getElem? (i := 13) rfl)) (hw _ (List.mem_of_getElem? (i := 14) rfl)) e0 (g := (mkF m 1 #[.val (.ref ob)] [(.ref ob)])) rfl (by rw [hml]; rfl) rfl (hb hby d41_1) (by decide) (W := 0) (by show 2 * 0 + _ ≤ _; exact Nat.le_of_eq rfl) (by decide)
  refine Gl.st st1 ?_
  show Gl p e below P (T1.setTop (mkF m 4 #[.val (.ref ob)] []))
  obtain ⟨fs, hr, hrun, hended, hW, hsame⟩ := X1.leave (v := none) (fun _ => rfl)
  refine ⟨_, _, X1.returnOut hx Bd.returns (hb hby d41_4) hr, hrun, hended, hPost _ _ ⟨_, _, rfl, ?_, ⟨_, rfl⟩, hW, hsame.mono (by decide) (by decide)⟩⟩
  show Q41 Z ob h0 n0 _ T1.heap _
  rw [e1]
  exact ⟨rfl, N0, rfl⟩
theorem pn_42 : plainName "java/util/AbstractList" = true := by first | (simp [plainName, overriddenIn]; done) | decide +kernel
theorem ef_42 (m : MethodId) (x0 : Addr) : entryFrame m #[(.ref x0)] 1 = mkF m 0 #[.val (.ref x0)] [] := by first | (simp [entryFrame, mkF, argsToLocals, Value.category]; done) | rfl
def Q42 (Z : State) (li : Addr) (h0 : Heap) (n0 : Nat) (v : Option Value) (h : Heap) (L : List Loc) : Prop := v = none ∧ Fr n0 L ∧ Keep h0 h [li] ∧ Fld Z h li "java/util/AbstractList" "modCount" "I" (.int (0 : Int32)) ∧ Fld Z h li "java/util/ArrayList" "elementData" "[Ljava/lang/Object;" .null ∧ Fld Z h li "java/util/ArrayList" "size" "I" (.int (0 : Int32))
set_option maxRecDepth 65536 in
set_option maxHeartbeats 40000000 in
theorem rm42 (l : Launch) (Z : State) (a0 : Array Value) (hw : ∀ d ∈ tables_1, d.before a0 Z = true) (ws : List Jvm.Cond) (li : Addr) (h0 : Heap) (n0 : Nat) (Z0 : n0 ≤ h0.size) (EL : Exa Z h0 li "java/util/ArrayList") (FL0 : Fld Z h0 li "java/util/AbstractList" "modCount" "I" (.int (0 : Int32)) ∧ Fld Z h0 li "java/util/ArrayList" "elementData" "[Ljava/lang/Object;" .null ∧ Fld Z h0 li "java/util/ArrayList" "size" "I" (.int (0 : Int32))) (gi : n0 ≤ li) :
    MetFree l (⟨"java/util/AbstractList", "<init>", "()V"⟩ : MethodName) (head1 (Jvm.Cond.code (⟨"java/util/AbstractList", "<init>", "()V"⟩ : MethodName) jdk_39_method_1_code 1 none :: ws) ({ frames := 2, cells := 0, slots := 0, locals := 24 } : Room)) (fun a U => a = #[(.ref li)] ∧ Z.Warmed39 U.vm ∧ U.heap = h0) (fun _ _ _ _ _ => True) (fun _ U o U' => ∃ v L, o = .returned v ∧ Q42 Z li h0 n0 v U'.heap L ∧ FrameEnd U o U' L ({ frames := 2, cells := 0, slots := 0, locals := 24 } : Room).cells ({ frames := 2, cells := 0, slots := 0, locals := 24 } : Room).slots) := by
  refine MetFree.of_bodySF (plainFor_of_name pn_42) hisR ?_
  intro p e s m args below meth c s₁ Bd hml0 hP hK
  obtain ⟨rfl, hZ, hh⟩ := hP
  have hx := Bd.exec
  have hby := Bd.bytes
  have hml : c.maxLocals = 1 := hml0
  have hown : s.vm.findClass "java/util/AbstractList" = some m.cls := findClass_of_methodNamed Bd.named
  have hnm := (name_of_methodNamed Bd.named Bd.method).1
  have X0 : Stand p l e ({ frames := 2, cells := 0, slots := 0, locals := 24 } : Room) s m #[(.ref li)] below meth c s₁ [] 0 0 := Stand.of_body Bd
  have e0 : s₁.heap = h0 := by rw [← hh, Bd.state]; rfl
  have N0 := Fr.nil n0
  refine Gl.gen fun P hPost => ?_
  refine Gl.st (fun _ k => castTop (ef_42 m li ) k) ?_
  show Gl p e below P (s₁.setTop (mkF m 0 #[.val (.ref li)] []))
  obtain ⟨FM, FD, FS⟩ := FL0
  refine Gl.st (fun _ k => XS.aloadN X0.here hx rfl (hb hby d42_0) rfl rfl k) ?_
  show Gl p e below P (s₁.setTop (mkF m 1 #[.val (.ref li)] [(.ref li)]))
  obtain ⟨_, _, ⟨T1, L1, k1, n1⟩, -, X1, ⟨Lc1, hQ1, l1, y1, z1⟩, st1⟩ := X0.specialBack hx (y := (⟨"java/util/AbstractCollection", "<init>", "()V"⟩ : MethodName)) rfl hown (mvT hZ (hw _ (List.mem_of_getElem? (i := 27) rfl))) (mvT hZ (hw _ (List.mem_of_getElem? (i := 28) rfl))) (mvT hZ (hw _ (List.mem_of_getElem? (i := 32) rfl))) (by decide) (backOf (W := 0) (rm41 l Z a0 hw [] li h0 n0 Z0 ) hZ (hw _ (List.mem_of_getElem? (i := 32) rfl)) (hw _ (List.mem_of_getElem? (i := 31) rfl)) (by decide) (by decide)) (g := (mkF m 1 #[.val (.ref li)] [(.ref li)])) rfl (by rw [hml]; rfl) (Steps.refl _) (a := li) (argsL := []) (rest := []) (lenOf pd_0 rfl) rfl (by show 2 * 0 + _ ≤ _; exact Nat.le_of_eq rfl) (hb hby d42_1) (fun _ _ => ⟨rfl, e0, (by decide : 0 + 0 ≤ _), (by decide : 0 + 0 ≤ _)⟩)
  dsimp only [Pt.U, Pt.locs, Pt.cells, Pt.slots] at X1 l1 y1 z1 st1 hQ1
  subst l1 y1 z1
  obtain ⟨rfl, N1q, e1⟩ := hQ1
  have N1 := Fr.app N0 N1q
  refine Gl.tr st1 ?_
  show Gl p e below P (T1.setTop (mkF m 4 #[.val (.ref li)] []))
  refine Gl.st (fun _ k => XS.aloadN X1.here hx rfl (hb hby d42_4) rfl rfl k) ?_
  show Gl p e below P (T1.setTop (mkF m 5 #[.val (.ref li)] [(.ref li)]))
  refine Gl.st (fun _ k => XS.iconst X1.here hx rfl (hb hby d42_5) k) ?_
  show Gl p e below P (T1.setTop (mkF m 6 #[.val (.ref li)] [(.int (0 : Int32)), (.ref li)]))
  obtain ⟨T2, h2, X2, e2, W2, st2⟩ := putF X1 hx hZ hown (host := "") (Or.inl (hw _ (List.mem_of_getElem? (i := 34) rfl))) Via.refl e1 FM EL (Or.inl (hw _ (List.mem_of_getElem? (i := 35) rfl))) (hw _ (List.mem_of_getElem? (i := 16) rfl)) (ty := .int) (by decide) rfl rfl (g := (mkF m 6 #[.val (.ref li)] [(.int (0 : Int32)), (.ref li)])) rfl rfl (hb hby d42_6)
  refine Gl.st st2 ?_
  have Z0_v2 : n0 ≤ h2.size := Nat.le_trans Z0 (Keep.of_wr W2).1
  have EL_v2 : Exa Z h2 li "java/util/ArrayList" := EL.wr W2
  have FD_v2 : Fld Z h2 li "java/util/ArrayList" "elementData" "[Ljava/lang/Object;" .null := FD.other W2 (Or.inr (slot_ne (Or.inl (hw _ (List.mem_of_getElem? (i := 38) rfl))) (Or.inl (hw _ (List.mem_of_getElem? (i := 35) rfl))) (by decide) (t := (.array (.object "java/lang/Object"))) (t' := .int) (by decide) (by decide)))
  have FS_v2 : Fld Z h2 li "java/util/ArrayList" "size" "I" (.int (0 : Int32)) := FS.other W2 (Or.inr (slot_ne (Or.inl (hw _ (List.mem_of_getElem? (i := 62) rfl))) (Or.inl (hw _ (List.mem_of_getElem? (i := 35) rfl))) (by decide) (t := .int) (t' := .int) (by decide) (by decide)))
  have f_K_v2 : Keep h0 h2 [li] := (Keep.refl h0 [li]).wr W2 (Or.inl (List.mem_of_getElem? (i := 0) rfl))
  have Fw2 : Fld Z h2 li "java/util/AbstractList" "modCount" "I" (.int (0 : Int32)) := FM.same W2
  have N2 := Fr.snoc X2 N1 gi
  show Gl p e below P (T2.setTop (mkF m 9 #[.val (.ref li)] []))
  obtain ⟨fs, hr, hrun, hended, hW, hsame⟩ := X2.leave (v := none) (fun _ => rfl)
  refine ⟨_, _, X2.returnOut hx Bd.returns (hb hby d42_9) hr, hrun, hended, hPost _ _ ⟨_, _, rfl, ?_, ⟨_, rfl⟩, hW, hsame.mono (by decide) (by decide)⟩⟩
  show Q42 Z li h0 n0 _ T2.heap _
  rw [e2]
  exact ⟨rfl, N2, f_K_v2, Fw2, FD_v2, FS_v2⟩
theorem pn_43 : plainName "java/util/ArrayList" = true := by first | (simp [plainName, overriddenIn]; done) | decide +kernel
theorem ef_43 (m : MethodId) (x0 : Addr) : entryFrame m #[(.ref x0)] 1 = mkF m 0 #[.val (.ref x0)] [] := by first | (simp [entryFrame, mkF, argsToLocals, Value.category]; done) | rfl
def Q43 (Z : State) (li : Addr) (dc : Addr) (h0 : Heap) (n0 : Nat) (v : Option Value) (h : Heap) (L : List Loc) : Prop := v = none ∧ Fr n0 L ∧ Keep h0 h [li] ∧ Fld Z h li "java/util/AbstractList" "modCount" "I" (.int (0 : Int32)) ∧ Fld Z h li "java/util/ArrayList" "elementData" "[Ljava/lang/Object;" (.ref dc) ∧ Fld Z h li "java/util/ArrayList" "size" "I" (.int (0 : Int32))
set_option maxRecDepth 65536 in
set_option maxHeartbeats 40000000 in
theorem rm43 (l : Launch) (Z : State) (a0 : Array Value) (hw : ∀ d ∈ tables_1, d.before a0 Z = true) (ws : List Jvm.Cond) (li : Addr) (dc : Addr) (h0 : Heap) (n0 : Nat) (Z0 : n0 ≤ h0.size) (EL : Exa Z h0 li "java/util/ArrayList") (FL0 : Fld Z h0 li "java/util/AbstractList" "modCount" "I" (.int (0 : Int32)) ∧ Fld Z h0 li "java/util/ArrayList" "elementData" "[Ljava/lang/Object;" .null ∧ Fld Z h0 li "java/util/ArrayList" "size" "I" (.int (0 : Int32))) (gi : n0 ≤ li) (O0 : Old Z n0 h0) (SD : Sta Z Z.heap "java/util/ArrayList" "DEFAULTCAPACITY_EMPTY_ELEMENTDATA" "[Ljava/lang/Object;" (.ref dc)) :
    MetFree l (⟨"java/util/ArrayList", "<init>", "()V"⟩ : MethodName) (head1 (Jvm.Cond.code (⟨"java/util/ArrayList", "<init>", "()V"⟩ : MethodName) jdk_38_method_2_code 1 none :: ws) ({ frames := 3, cells := 0, slots := 0, locals := 36 } : Room)) (fun a U => a = #[(.ref li)] ∧ Z.Warmed39 U.vm ∧ U.heap = h0) (fun _ _ _ _ _ => True) (fun _ U o U' => ∃ v L, o = .returned v ∧ Q43 Z li dc h0 n0 v U'.heap L ∧ FrameEnd U o U' L ({ frames := 3, cells := 0, slots := 0, locals := 36 } : Room).cells ({ frames := 3, cells := 0, slots := 0, locals := 36 } : Room).slots) := by
  refine MetFree.of_bodySF (plainFor_of_name pn_43) hisR ?_
  intro p e s m args below meth c s₁ Bd hml0 hP hK
  obtain ⟨rfl, hZ, hh⟩ := hP
  have hx := Bd.exec
  have hby := Bd.bytes
  have hml : c.maxLocals = 1 := hml0
  have hown : s.vm.findClass "java/util/ArrayList" = some m.cls := findClass_of_methodNamed Bd.named
  have hnm := (name_of_methodNamed Bd.named Bd.method).1
  have X0 : Stand p l e ({ frames := 3, cells := 0, slots := 0, locals := 36 } : Room) s m #[(.ref li)] below meth c s₁ [] 0 0 := Stand.of_body Bd
  have e0 : s₁.heap = h0 := by rw [← hh, Bd.state]; rfl
  have N0 := Fr.nil n0
  refine Gl.gen fun P hPost => ?_
  refine Gl.st (fun _ k => castTop (ef_43 m li ) k) ?_
  show Gl p e below P (s₁.setTop (mkF m 0 #[.val (.ref li)] []))
  obtain ⟨FM, FD, FS⟩ := FL0
  refine Gl.st (fun _ k => XS.aloadN X0.here hx rfl (hb hby d43_0) rfl rfl k) ?_
  show Gl p e below P (s₁.setTop (mkF m 1 #[.val (.ref li)] [(.ref li)]))
  obtain ⟨_, _, ⟨T1, L1, k1, n1⟩, -, X1, ⟨Lc1, hQ1, l1, y1, z1⟩, st1⟩ := X0.specialBack hx (y := (⟨"java/util/AbstractList", "<init>", "()V"⟩ : MethodName)) rfl hown (mvT hZ (hw _ (List.mem_of_getElem? (i := 21) rfl))) (mvT hZ (hw _ (List.mem_of_getElem? (i := 22) rfl))) (mvT hZ (hw _ (List.mem_of_getElem? (i := 26) rfl))) (by decide) (backOf (W := 0) (rm42 l Z a0 hw [] li h0 n0 Z0 EL ⟨FM, FD, FS⟩ gi) hZ (hw _ (List.mem_of_getElem? (i := 26) rfl)) (hw _ (List.mem_of_getElem? (i := 25) rfl)) (by decide) (by decide)) (g := (mkF m 1 #[.val (.ref li)] [(.ref li)])) rfl (by rw [hml]; rfl) (Steps.refl _) (a := li) (argsL := []) (rest := []) (lenOf pd_0 rfl) rfl (by show 2 * 0 + _ ≤ _; exact Nat.le_of_eq rfl) (hb hby d43_1) (fun _ _ => ⟨rfl, e0, (by decide : 0 + 0 ≤ _), (by decide : 0 + 0 ≤ _)⟩)
  dsimp only [Pt.U, Pt.locs, Pt.cells, Pt.slots] at X1 l1 y1 z1 st1 hQ1
  subst l1 y1 z1
  obtain ⟨rfl, N1q, K1, F1_1, F2_1, F3_1⟩ := hQ1
  have N1 := Fr.app N0 N1q
  have Z0_v1 : n0 ≤ T1.heap.size := Nat.le_trans Z0 K1.1
  have EL_v1 : Exa Z T1.heap li "java/util/ArrayList" := EL.keep K1
  have f_K_v1 : Keep h0 T1.heap [li] := (Keep.refl h0 [li]).trans K1 (allS (Or.inl (List.mem_of_getElem? (i := 0) rfl)) all0)
  have O0_v1 : Old Z n0 T1.heap := O0.keep K1 (allS gi all0)
  have f_S_java_util_ArrayList_DEFAULTCAPACITY_EMPTY_ELEMENTDATA_v1 : Sta Z T1.heap "java/util/ArrayList" "DEFAULTCAPACITY_EMPTY_ELEMENTDATA" "[Ljava/lang/Object;" (.ref dc) := SD.ext O0_v1.2
  refine Gl.tr st1 ?_
  show Gl p e below P (T1.setTop (mkF m 4 #[.val (.ref li)] []))
  refine Gl.st (fun _ k => XS.aloadN X1.here hx rfl (hb hby d43_4) rfl rfl k) ?_
  show Gl p e below P (T1.setTop (mkF m 5 #[.val (.ref li)] [(.ref li)]))
  obtain ⟨T2, X2, e2, st2⟩ := getS2 X1 hx hZ hown (host := "") (Or.inl (hw _ (List.mem_of_getElem? (i := 36) rfl))) Via.refl rfl f_S_java_util_ArrayList_DEFAULTCAPACITY_EMPTY_ELEMENTDATA_v1 (g := (mkF m 5 #[.val (.ref li)] [(.ref li)])) rfl (hb hby d43_5)
  refine Gl.st st2 ?_
  show Gl p e below P (T2.setTop (mkF m 8 #[.val (.ref li)] [(.ref dc), (.ref li)]))
  obtain ⟨T3, h3, X3, e3, W3, st3⟩ := putF X2 hx hZ hown (host := "") (Or.inl (hw _ (List.mem_of_getElem? (i := 37) rfl))) Via.refl e2 F2_1 EL_v1 (Or.inl (hw _ (List.mem_of_getElem? (i := 38) rfl))) (hw _ (List.mem_of_getElem? (i := 16) rfl)) (ty := (.array (.object "java/lang/Object"))) (by decide) rfl rfl (g := (mkF m 8 #[.val (.ref li)] [(.ref dc), (.ref li)])) rfl rfl (hb hby d43_8)
  refine Gl.st st3 ?_
  have Z0_v3 : n0 ≤ h3.size := Nat.le_trans Z0_v1 (Keep.of_wr W3).1
  have EL_v3 : Exa Z h3 li "java/util/ArrayList" := EL_v1.wr W3
  have f_K_v3 : Keep h0 h3 [li] := f_K_v1.wr W3 (Or.inl (List.mem_of_getElem? (i := 0) rfl))
  have O0_v3 : Old Z n0 h3 := O0_v1.wr W3 gi
  have f_S_java_util_ArrayList_DEFAULTCAPACITY_EMPTY_ELEMENTDATA_v3 : Sta Z h3 "java/util/ArrayList" "DEFAULTCAPACITY_EMPTY_ELEMENTDATA" "[Ljava/lang/Object;" (.ref dc) := f_S_java_util_ArrayList_DEFAULTCAPACITY_EMPTY_ELEMENTDATA_v1.wr W3
  have F1_1_v3 : Fld Z h3 li "java/util/AbstractList" "modCount" "I" (.int (0 : Int32)) := F1_1.other W3 (Or.inr (slot_ne (Or.inl (hw _ (List.mem_of_getElem? (i := 35) rfl))) (Or.inl (hw _ (List.mem_of_getElem? (i := 38) rfl))) (by decide) (t := .int) (t' := (.array (.object "java/lang/Object"))) (by decide) (by decide)))
  have F3_1_v3 : Fld Z h3 li "java/util/ArrayList" "size" "I" (.int (0 : Int32)) := F3_1.other W3 (Or.inr (slot_ne (Or.inl (hw _ (List.mem_of_getElem? (i := 62) rfl))) (Or.inl (hw _ (List.mem_of_getElem? (i := 38) rfl))) (by decide) (t := .int) (t' := (.array (.object "java/lang/Object"))) (by decide) (by decide)))
  have Fw3 : Fld Z h3 li "java/util/ArrayList" "elementData" "[Ljava/lang/Object;" (.ref dc) := F2_1.same W3
  have N3 := Fr.snoc X3 N1 gi
  show Gl p e below P (T3.setTop (mkF m 11 #[.val (.ref li)] []))
  obtain ⟨fs, hr, hrun, hended, hW, hsame⟩ := X3.leave (v := none) (fun _ => rfl)
  refine ⟨_, _, X3.returnOut hx Bd.returns (hb hby d43_11) hr, hrun, hended, hPost _ _ ⟨_, _, rfl, ?_, ⟨_, rfl⟩, hW, hsame.mono (by decide) (by decide)⟩⟩
  show Q43 Z li dc h0 n0 _ T3.heap _
  rw [e3]
  exact ⟨rfl, N3, f_K_v3, F1_1_v3, Fw3, F3_1_v3⟩
theorem pn_44 : plainName "com/example/cotab/cotab/ChunkedBytes" = true := by first | (simp [plainName, overriddenIn]; done) | decide +kernel
theorem ef_44 (m : MethodId) (x0 : Addr) (x1 : Int32) : entryFrame m #[(.ref x0), (.int x1)] 2 = mkF m 0 #[.val (.ref x0), .val (.int x1)] [] := by first | (simp [entryFrame, mkF, argsToLocals, Value.category]; done) | rfl
def Q44 (Z : State) (ob : Addr) (cb : Nat) (dc : Addr) (kd : ClassId) (h0 : Heap) (n0 : Nat) (v : Option Value) (h : Heap) (L : List Loc) : Prop := v = none ∧ Fr n0 L ∧ Keep h0 h [ob] ∧ ∃ li, own_Ob Z h ob li cb 0 ∧ own_Ls Z n0 dc h li dc kd 0 0 [] (0 : Int32) ∧ n0 ≤ li ∧ h0.size ≤ li
set_option maxRecDepth 65536 in
set_option maxHeartbeats 40000000 in
theorem rm44 (l : Launch) (Z : State) (a0 : Array Value) (hw : ∀ d ∈ tables_1, d.before a0 Z = true) (ws : List Jvm.Cond) (ob : Addr) (cb : Nat) (dc : Addr) (kd : ClassId) (h0 : Heap) (n0 : Nat) (Z0 : n0 ≤ h0.size) (EO : Exa Z h0 ob "com/example/cotab/cotab/ChunkedBytes") (FC : Fld Z h0 ob "com/example/cotab/cotab/ChunkedBytes" "chunks" "Ljava/util/List;" .null) (FB : Fld Z h0 ob "com/example/cotab/cotab/ChunkedBytes" "chunkBytes" "I" (.int (0 : Int32))) (FZ : Fld Z h0 ob "com/example/cotab/cotab/ChunkedBytes" "size" "I" (.int (0 : Int32))) (gi : n0 ≤ ob) (O0 : Old Z n0 h0) (SD : Sta Z Z.heap "java/util/ArrayList" "DEFAULTCAPACITY_EMPTY_ELEMENTDATA" "[Ljava/lang/Object;" (.ref dc)) (ED : Exa Z Z.heap dc "[Ljava/lang/Object;") (VD : Arv Z Z.heap dc kd (.object "java/lang/Object") (0 : Int32) [] .null) :
    MetFree l (⟨"com/example/cotab/cotab/ChunkedBytes", "<init>", "(I)V"⟩ : MethodName) (head1 (Jvm.Cond.code (⟨"com/example/cotab/cotab/ChunkedBytes", "<init>", "(I)V"⟩ : MethodName) prog_2_method_1_code 2 none :: ws) ({ frames := 4, cells := 1, slots := 3, locals := 50 } : Room)) (fun a U => a = #[(.ref ob), (.int (Int32.ofNat cb))] ∧ Z.Warmed39 U.vm ∧ U.heap = h0) (fun _ _ _ _ _ => True) (fun _ U o U' => ∃ v L, o = .returned v ∧ Q44 Z ob cb dc kd h0 n0 v U'.heap L ∧ FrameEnd U o U' L ({ frames := 4, cells := 1, slots := 3, locals := 50 } : Room).cells ({ frames := 4, cells := 1, slots := 3, locals := 50 } : Room).slots) := by
  refine MetFree.of_bodySF (plainFor_of_name pn_44) hisR ?_
  intro p e s m args below meth c s₁ Bd hml0 hP hK
  obtain ⟨rfl, hZ, hh⟩ := hP
  have hx := Bd.exec
  have hby := Bd.bytes
  have hml : c.maxLocals = 2 := hml0
  have hown : s.vm.findClass "com/example/cotab/cotab/ChunkedBytes" = some m.cls := findClass_of_methodNamed Bd.named
  have hnm := (name_of_methodNamed Bd.named Bd.method).1
  have X0 : Stand p l e ({ frames := 4, cells := 1, slots := 3, locals := 50 } : Room) s m #[(.ref ob), (.int (Int32.ofNat cb))] below meth c s₁ [] 0 0 := Stand.of_body Bd
  have e0 : s₁.heap = h0 := by rw [← hh, Bd.state]; rfl
  have N0 := Fr.nil n0
  refine Gl.gen fun P hPost => ?_
  refine Gl.st (fun _ k => castTop (ef_44 m ob (Int32.ofNat cb) ) k) ?_
  show Gl p e below P (s₁.setTop (mkF m 0 #[.val (.ref ob), .val (.int (Int32.ofNat cb))] []))
  refine Gl.st (fun _ k => XS.aloadN X0.here hx rfl (hb hby d44_0) rfl rfl k) ?_
  show Gl p e below P (s₁.setTop (mkF m 1 #[.val (.ref ob), .val (.int (Int32.ofNat cb))] [(.ref ob)]))
  obtain ⟨_, _, ⟨T1, L1, k1, n1⟩, -, X1, ⟨Lc1, hQ1, l1, y1, z1⟩, st1⟩ := X0.specialBack hx (y := (⟨"java/io/OutputStream", "<init>", "()V"⟩ : MethodName)) rfl hown (mvT hZ (hw _ (List.mem_of_getElem? (i := 7) rfl))) (mvT hZ (hw _ (List.mem_of_getElem? (i := 8) rfl))) (mvT hZ (hw _ (List.mem_of_getElem? (i := 11) rfl))) (by decide) (backOf (W := 0) (rm40 l Z a0 hw [] ob h0 n0 Z0 ) hZ (hw _ (List.mem_of_getElem? (i := 11) rfl)) (hw _ (List.mem_of_getElem? (i := 10) rfl)) (by decide) (by decide)) (g := (mkF m 1 #[.val (.ref ob), .val (.int (Int32.ofNat cb))] [(.ref ob)])) rfl (by rw [hml]; rfl) (Steps.refl _) (a := ob) (argsL := []) (rest := []) (lenOf pd_0 rfl) rfl (by show 2 * 0 + _ ≤ _; exact Nat.le_of_eq rfl) (hb hby d44_1) (fun _ _ => ⟨rfl, e0, (by decide : 0 + 0 ≤ _), (by decide : 0 + 0 ≤ _)⟩)
  dsimp only [Pt.U, Pt.locs, Pt.cells, Pt.slots] at X1 l1 y1 z1 st1 hQ1
  subst l1 y1 z1
  obtain ⟨rfl, N1q, e1⟩ := hQ1
  have N1 := Fr.app N0 N1q
  refine Gl.tr st1 ?_
  show Gl p e below P (T1.setTop (mkF m 4 #[.val (.ref ob), .val (.int (Int32.ofNat cb))] []))
  refine Gl.st (fun _ k => XS.aloadN X1.here hx rfl (hb hby d44_4) rfl rfl k) ?_
  show Gl p e below P (T1.setTop (mkF m 5 #[.val (.ref ob), .val (.int (Int32.ofNat cb))] [(.ref ob)]))
  obtain ⟨T2, h2, X2, e2, E2, A2, D2, -, st2⟩ := newO X1 hx hZ hown (hw _ (List.mem_of_getElem? (i := 15) rfl)) (hw _ (List.mem_of_getElem? (i := 16) rfl)) (hw _ (List.mem_of_getElem? (i := 17) rfl)) e1 (g := (mkF m 5 #[.val (.ref ob), .val (.int (Int32.ofNat cb))] [(.ref ob)])) rfl (hb hby d44_5) (by decide) (by decide)
  obtain ⟨b2, g2⟩ : ∃ z, z = h0.size := ⟨_, rfl⟩
  rw [← g2] at A2 D2 st2
  refine Gl.st st2 ?_
  have g_b2 : n0 ≤ b2 := Nat.le_trans Z0 (Nat.le_of_eq g2.symm)
  have sz_b2 : h0.size ≤ b2 := Nat.le_trans (Keep.refl h0 [ob]).1 (Nat.le_of_eq g2.symm)
  have ne_ob_b2 : ob ≠ b2 := Nat.ne_of_lt (Nat.lt_of_lt_of_le EO.lt (Nat.le_of_eq g2.symm))
  have Z0_v2 : n0 ≤ h2.size := Nat.le_trans Z0 E2.1
  have EO_v2 : Exa Z h2 ob "com/example/cotab/cotab/ChunkedBytes" := EO.ext E2
  have FC_v2 : Fld Z h2 ob "com/example/cotab/cotab/ChunkedBytes" "chunks" "Ljava/util/List;" .null := FC.ext E2
  have FB_v2 : Fld Z h2 ob "com/example/cotab/cotab/ChunkedBytes" "chunkBytes" "I" (.int (0 : Int32)) := FB.ext E2
  have FZ_v2 : Fld Z h2 ob "com/example/cotab/cotab/ChunkedBytes" "size" "I" (.int (0 : Int32)) := FZ.ext E2
  have f_K_v2 : Keep h0 h2 [ob] := (Keep.refl h0 [ob]).ext E2
  have O0_v2 : Old Z n0 h2 := O0.ext E2
  have f_S_java_util_ArrayList_DEFAULTCAPACITY_EMPTY_ELEMENTDATA_v2 : Sta Z h2 "java/util/ArrayList" "DEFAULTCAPACITY_EMPTY_ELEMENTDATA" "[Ljava/lang/Object;" (.ref dc) := (SD.ext O0.2).ext E2
  have F_modCount_b2 : Fld Z h2 b2 "java/util/AbstractList" "modCount" "I" (.int (0 : Int32)) := D2 (Or.inl (hw _ (List.mem_of_getElem? (i := 35) rfl))) (ty := .int) (by decide)
  have F_elementData_b2 : Fld Z h2 b2 "java/util/ArrayList" "elementData" "[Ljava/lang/Object;" .null := D2 (Or.inl (hw _ (List.mem_of_getElem? (i := 38) rfl))) (ty := (.array (.object "java/lang/Object"))) (by decide)
  have F_size_b2 : Fld Z h2 b2 "java/util/ArrayList" "size" "I" (.int (0 : Int32)) := D2 (Or.inl (hw _ (List.mem_of_getElem? (i := 62) rfl))) (ty := .int) (by decide)
  show Gl p e below P (T2.setTop (mkF m 8 #[.val (.ref ob), .val (.int (Int32.ofNat cb))] [(.ref b2), (.ref ob)]))
  refine Gl.st (fun _ k => XS.dup X2.here hx rfl (hb hby d44_8) rfl rfl k) ?_
  show Gl p e below P (T2.setTop (mkF m 9 #[.val (.ref ob), .val (.int (Int32.ofNat cb))] [(.ref b2), (.ref b2), (.ref ob)]))
  obtain ⟨_, _, ⟨T3, L3, k3, n3⟩, -, X3, ⟨Lc3, hQ3, l3, y3, z3⟩, st3⟩ := X2.specialBack hx (y := (⟨"java/util/ArrayList", "<init>", "()V"⟩ : MethodName)) rfl hown (mvT hZ (hw _ (List.mem_of_getElem? (i := 18) rfl))) (mvT hZ (hw _ (List.mem_of_getElem? (i := 19) rfl))) (mvT hZ (hw _ (List.mem_of_getElem? (i := 20) rfl))) (by decide) (backOf (W := 2) (rm43 l Z a0 hw [] b2 dc h2 n0 Z0_v2 A2 ⟨F_modCount_b2, F_elementData_b2, F_size_b2⟩ g_b2 O0_v2 SD) hZ (hw _ (List.mem_of_getElem? (i := 20) rfl)) (hw _ (List.mem_of_getElem? (i := 17) rfl)) (by decide) (by decide)) (g := (mkF m 9 #[.val (.ref ob), .val (.int (Int32.ofNat cb))] [(.ref b2), (.ref b2), (.ref ob)])) rfl (by rw [hml]; rfl) (Steps.refl _) (a := b2) (argsL := []) (rest := [(.ref b2), (.ref ob)]) (lenOf pd_0 rfl) rfl (by show 2 * 0 + _ ≤ _; exact Nat.le_of_eq rfl) (hb hby d44_9) (fun _ _ => ⟨rfl, e2, (by decide : 1 + 0 ≤ _), (by decide : 3 + 0 ≤ _)⟩)
  dsimp only [Pt.U, Pt.locs, Pt.cells, Pt.slots] at X3 l3 y3 z3 st3 hQ3
  subst l3 y3 z3
  obtain ⟨rfl, N3q, K3, F1_3, F2_3, F3_3⟩ := hQ3
  have N3 := Fr.app N1 N3q
  have Z0_v3 : n0 ≤ T3.heap.size := Nat.le_trans Z0_v2 K3.1
  have EO_v3 : Exa Z T3.heap ob "com/example/cotab/cotab/ChunkedBytes" := EO_v2.keep K3
  have FC_v3 : Fld Z T3.heap ob "com/example/cotab/cotab/ChunkedBytes" "chunks" "Ljava/util/List;" .null := FC_v2.keep K3 (ninS ne_ob_b2 nin0)
  have FB_v3 : Fld Z T3.heap ob "com/example/cotab/cotab/ChunkedBytes" "chunkBytes" "I" (.int (0 : Int32)) := FB_v2.keep K3 (ninS ne_ob_b2 nin0)
  have FZ_v3 : Fld Z T3.heap ob "com/example/cotab/cotab/ChunkedBytes" "size" "I" (.int (0 : Int32)) := FZ_v2.keep K3 (ninS ne_ob_b2 nin0)
  have f_K_v3 : Keep h0 T3.heap [ob] := f_K_v2.trans K3 (allS (Or.inr sz_b2) all0)
  have O0_v3 : Old Z n0 T3.heap := O0_v2.keep K3 (allS g_b2 all0)
  have f_S_java_util_ArrayList_DEFAULTCAPACITY_EMPTY_ELEMENTDATA_v3 : Sta Z T3.heap "java/util/ArrayList" "DEFAULTCAPACITY_EMPTY_ELEMENTDATA" "[Ljava/lang/Object;" (.ref dc) := SD.ext O0_v3.2
  have A2_v3 : Exa Z T3.heap b2 "java/util/ArrayList" := A2.keep K3
  refine Gl.tr st3 ?_
  show Gl p e below P (T3.setTop (mkF m 12 #[.val (.ref ob), .val (.int (Int32.ofNat cb))] [(.ref b2), (.ref ob)]))
  obtain ⟨T4, h4, X4, e4, W4, st4⟩ := putF X3 hx hZ hown (host := "") (Or.inl (hw _ (List.mem_of_getElem? (i := 39) rfl))) Via.refl rfl FC_v3 EO_v3 (Or.inr ⟨(hw _ (List.mem_of_getElem? (i := 40) rfl)), rfl, hnm⟩) (hw _ (List.mem_of_getElem? (i := 2) rfl)) (ty := (.object "java/util/List")) (by decide) rfl rfl (g := (mkF m 12 #[.val (.ref ob), .val (.int (Int32.ofNat cb))] [(.ref b2), (.ref ob)])) rfl rfl (hb hby d44_12)
  refine Gl.st st4 ?_
  have Z0_v4 : n0 ≤ h4.size := Nat.le_trans Z0_v3 (Keep.of_wr W4).1
  have EO_v4 : Exa Z h4 ob "com/example/cotab/cotab/ChunkedBytes" := EO_v3.wr W4
  have FB_v4 : Fld Z h4 ob "com/example/cotab/cotab/ChunkedBytes" "chunkBytes" "I" (.int (0 : Int32)) := FB_v3.other W4 (Or.inr (slot_ne (Or.inr (hw _ (List.mem_of_getElem? (i := 42) rfl))) (Or.inr (hw _ (List.mem_of_getElem? (i := 40) rfl))) (by decide) (t := .int) (t' := (.object "java/util/List")) (by decide) (by decide)))
  have FZ_v4 : Fld Z h4 ob "com/example/cotab/cotab/ChunkedBytes" "size" "I" (.int (0 : Int32)) := FZ_v3.other W4 (Or.inr (slot_ne (Or.inl (hw _ (List.mem_of_getElem? (i := 64) rfl))) (Or.inr (hw _ (List.mem_of_getElem? (i := 40) rfl))) (by decide) (t := .int) (t' := (.object "java/util/List")) (by decide) (by decide)))
  have f_K_v4 : Keep h0 h4 [ob] := f_K_v3.wr W4 (Or.inl (List.mem_of_getElem? (i := 0) rfl))
  have O0_v4 : Old Z n0 h4 := O0_v3.wr W4 gi
  have f_S_java_util_ArrayList_DEFAULTCAPACITY_EMPTY_ELEMENTDATA_v4 : Sta Z h4 "java/util/ArrayList" "DEFAULTCAPACITY_EMPTY_ELEMENTDATA" "[Ljava/lang/Object;" (.ref dc) := f_S_java_util_ArrayList_DEFAULTCAPACITY_EMPTY_ELEMENTDATA_v3.wr W4
  have A2_v4 : Exa Z h4 b2 "java/util/ArrayList" := A2_v3.wr W4
  have F1_3_v4 : Fld Z h4 b2 "java/util/AbstractList" "modCount" "I" (.int (0 : Int32)) := F1_3.other W4 (Or.inl (Ne.symm ne_ob_b2))
  have F2_3_v4 : Fld Z h4 b2 "java/util/ArrayList" "elementData" "[Ljava/lang/Object;" (.ref dc) := F2_3.other W4 (Or.inl (Ne.symm ne_ob_b2))
  have F3_3_v4 : Fld Z h4 b2 "java/util/ArrayList" "size" "I" (.int (0 : Int32)) := F3_3.other W4 (Or.inl (Ne.symm ne_ob_b2))
  have Fw4 : Fld Z h4 ob "com/example/cotab/cotab/ChunkedBytes" "chunks" "Ljava/util/List;" (.ref b2) := FC_v3.same W4
  have N4 := Fr.snoc X4 N3 gi
  show Gl p e below P (T4.setTop (mkF m 15 #[.val (.ref ob), .val (.int (Int32.ofNat cb))] []))
  refine Gl.st (fun _ k => XS.aloadN X4.here hx rfl (hb hby d44_15) rfl rfl k) ?_
  show Gl p e below P (T4.setTop (mkF m 16 #[.val (.ref ob), .val (.int (Int32.ofNat cb))] [(.ref ob)]))
  refine Gl.st (fun _ k => XS.iloadN X4.here hx rfl (hb hby d44_16) rfl k) ?_
  show Gl p e below P (T4.setTop (mkF m 17 #[.val (.ref ob), .val (.int (Int32.ofNat cb))] [(.int (Int32.ofNat cb)), (.ref ob)]))
  obtain ⟨T5, h5, X5, e5, W5, st5⟩ := putF X4 hx hZ hown (host := "") (Or.inl (hw _ (List.mem_of_getElem? (i := 41) rfl))) Via.refl e4 FB_v4 EO_v4 (Or.inr ⟨(hw _ (List.mem_of_getElem? (i := 42) rfl)), rfl, hnm⟩) (hw _ (List.mem_of_getElem? (i := 2) rfl)) (ty := .int) (by decide) rfl rfl (g := (mkF m 17 #[.val (.ref ob), .val (.int (Int32.ofNat cb))] [(.int (Int32.ofNat cb)), (.ref ob)])) rfl rfl (hb hby d44_17)
  refine Gl.st st5 ?_
  have Z0_v5 : n0 ≤ h5.size := Nat.le_trans Z0_v4 (Keep.of_wr W5).1
  have EO_v5 : Exa Z h5 ob "com/example/cotab/cotab/ChunkedBytes" := EO_v4.wr W5
  have FZ_v5 : Fld Z h5 ob "com/example/cotab/cotab/ChunkedBytes" "size" "I" (.int (0 : Int32)) := FZ_v4.other W5 (Or.inr (slot_ne (Or.inl (hw _ (List.mem_of_getElem? (i := 64) rfl))) (Or.inr (hw _ (List.mem_of_getElem? (i := 42) rfl))) (by decide) (t := .int) (t' := .int) (by decide) (by decide)))
  have f_K_v5 : Keep h0 h5 [ob] := f_K_v4.wr W5 (Or.inl (List.mem_of_getElem? (i := 0) rfl))
  have O0_v5 : Old Z n0 h5 := O0_v4.wr W5 gi
  have f_S_java_util_ArrayList_DEFAULTCAPACITY_EMPTY_ELEMENTDATA_v5 : Sta Z h5 "java/util/ArrayList" "DEFAULTCAPACITY_EMPTY_ELEMENTDATA" "[Ljava/lang/Object;" (.ref dc) := f_S_java_util_ArrayList_DEFAULTCAPACITY_EMPTY_ELEMENTDATA_v4.wr W5
  have A2_v5 : Exa Z h5 b2 "java/util/ArrayList" := A2_v4.wr W5
  have F1_3_v5 : Fld Z h5 b2 "java/util/AbstractList" "modCount" "I" (.int (0 : Int32)) := F1_3_v4.other W5 (Or.inl (Ne.symm ne_ob_b2))
  have F2_3_v5 : Fld Z h5 b2 "java/util/ArrayList" "elementData" "[Ljava/lang/Object;" (.ref dc) := F2_3_v4.other W5 (Or.inl (Ne.symm ne_ob_b2))
  have F3_3_v5 : Fld Z h5 b2 "java/util/ArrayList" "size" "I" (.int (0 : Int32)) := F3_3_v4.other W5 (Or.inl (Ne.symm ne_ob_b2))
  have Fw4_v5 : Fld Z h5 ob "com/example/cotab/cotab/ChunkedBytes" "chunks" "Ljava/util/List;" (.ref b2) := Fw4.other W5 (Or.inr (slot_ne (Or.inr (hw _ (List.mem_of_getElem? (i := 40) rfl))) (Or.inr (hw _ (List.mem_of_getElem? (i := 42) rfl))) (by decide) (t := (.object "java/util/List")) (t' := .int) (by decide) (by decide)))
  have Fw5 : Fld Z h5 ob "com/example/cotab/cotab/ChunkedBytes" "chunkBytes" "I" (.int (Int32.ofNat cb)) := FB_v4.same W5
  have N5 := Fr.snoc X5 N4 gi
  show Gl p e below P (T5.setTop (mkF m 20 #[.val (.ref ob), .val (.int (Int32.ofNat cb))] []))
  obtain ⟨fs, hr, hrun, hended, hW, hsame⟩ := X5.leave (v := none) (fun _ => rfl)
  refine ⟨_, _, X5.returnOut hx Bd.returns (hb hby d44_20) hr, hrun, hended, hPost _ _ ⟨_, _, rfl, ?_, ⟨_, rfl⟩, hW, hsame.mono (by decide) (by decide)⟩⟩
  show Q44 Z ob cb dc kd h0 n0 _ T5.heap _
  rw [e5]
  exact ⟨rfl, N5, f_K_v5, b2, ⟨EO_v5, Fw4_v5, Fw5, FZ_v5⟩, ⟨A2_v5, F2_3_v5, F3_3_v5, F1_3_v5, ED.ext O0_v5.2, VD.ext O0_v5.2, (fun _ q => nomatch q), rfl, Nat.le_refl _, Or.inl ⟨rfl, rfl⟩⟩, g_b2, sz_b2⟩
theorem pn_45 : plainName "java/util/ArrayList" = true := by first | (simp [plainName, overriddenIn]; done) | decide +kernel
theorem ef_45 (m : MethodId) (x0 : Addr) : entryFrame m #[(.ref x0)] 1 = mkF m 0 #[.val (.ref x0)] [] := by first | (simp [entryFrame, mkF, argsToLocals, Value.category]; done) | rfl
def Q45 (Z : State) (li : Addr) (z : Int32) (h0 : Heap) (n0 : Nat) (v : Option Value) (h : Heap) (L : List Loc) : Prop := v = some (.int z) ∧ Fr n0 L ∧ h = h0
set_option maxRecDepth 65536 in
set_option maxHeartbeats 40000000 in
theorem rm45 (l : Launch) (Z : State) (a0 : Array Value) (hw : ∀ d ∈ tables_1, d.before a0 Z = true) (ws : List Jvm.Cond) (li : Addr) (z : Int32) (h0 : Heap) (n0 : Nat) (Z0 : n0 ≤ h0.size) (EL : Exa Z h0 li "java/util/ArrayList") (FS : Fld Z h0 li "java/util/ArrayList" "size" "I" (.int z)) :
    MetFree l (⟨"java/util/ArrayList", "size", "()I"⟩ : MethodName) (head1 (Jvm.Cond.code (⟨"java/util/ArrayList", "size", "()I"⟩ : MethodName) jdk_38_method_8_code 1 (some .int) :: ws) ({ frames := 0, cells := 0, slots := 0, locals := 0 } : Room)) (fun a U => a = #[(.ref li)] ∧ Z.Warmed39 U.vm ∧ U.heap = h0) (fun _ _ _ _ _ => True) (fun _ U o U' => ∃ v L, o = .returned v ∧ Q45 Z li z h0 n0 v U'.heap L ∧ FrameEnd U o U' L ({ frames := 0, cells := 0, slots := 0, locals := 0 } : Room).cells ({ frames := 0, cells := 0, slots := 0, locals := 0 } : Room).slots) := by
  refine MetFree.of_bodySF (plainFor_of_name pn_45) hisR ?_
  intro p e s m args below meth c s₁ Bd hml0 hP hK
  obtain ⟨rfl, hZ, hh⟩ := hP
  have hx := Bd.exec
  have hby := Bd.bytes
  have hml : c.maxLocals = 1 := hml0
  have hown : s.vm.findClass "java/util/ArrayList" = some m.cls := findClass_of_methodNamed Bd.named
  have hnm := (name_of_methodNamed Bd.named Bd.method).1
  have X0 : Stand p l e ({ frames := 0, cells := 0, slots := 0, locals := 0 } : Room) s m #[(.ref li)] below meth c s₁ [] 0 0 := Stand.of_body Bd
  have e0 : s₁.heap = h0 := by rw [← hh, Bd.state]; rfl
  have N0 := Fr.nil n0
  refine Gl.gen fun P hPost => ?_
  refine Gl.st (fun _ k => castTop (ef_45 m li ) k) ?_
  show Gl p e below P (s₁.setTop (mkF m 0 #[.val (.ref li)] []))
  refine Gl.st (fun _ k => XS.aloadN X0.here hx rfl (hb hby d45_0) rfl rfl k) ?_
  show Gl p e below P (s₁.setTop (mkF m 1 #[.val (.ref li)] [(.ref li)]))
  obtain ⟨T1, X1, e1, st1⟩ := getF X0 hx hZ hown (host := "") (Or.inl (hw _ (List.mem_of_getElem? (i := 61) rfl))) Via.refl e0 FS (g := (mkF m 1 #[.val (.ref li)] [(.ref li)])) rfl rfl (hb hby d45_1)
  refine Gl.st st1 ?_
  show Gl p e below P (T1.setTop (mkF m 4 #[.val (.ref li)] [(.int z)]))
  obtain ⟨fs, hr, hrun, hended, hW, hsame⟩ := X1.leave (v := some (.int z)) (fun h => by rw [Bd.returns] at h; cases h)
  refine ⟨_, _, retOut X1 hx Bd.returns rfl (Or.inl ⟨rfl, Or.inl rfl, _, rfl⟩) (hb hby d45_4) hr, hrun, hended, hPost _ _ ⟨_, _, rfl, ?_, ⟨_, rfl⟩, hW, hsame.mono (by decide) (by decide)⟩⟩
  show Q45 Z li z h0 n0 _ T1.heap _
  rw [e1]
  exact ⟨rfl, N0, rfl⟩
theorem pn_46 : plainName "com/example/cotab/cotab/ChunkedBytes" = true := by first | (simp [plainName, overriddenIn]; done) | decide +kernel
theorem ef_46 (m : MethodId) (x0 : Addr) : entryFrame m #[(.ref x0)] 1 = mkF m 0 #[.val (.ref x0)] [] := by first | (simp [entryFrame, mkF, argsToLocals, Value.category]; done) | rfl
def Q46 (Z : State) (ob : Addr) (z : Int32) (h0 : Heap) (n0 : Nat) (v : Option Value) (h : Heap) (L : List Loc) : Prop := v = some (.int z) ∧ Fr n0 L ∧ h = h0
set_option maxRecDepth 65536 in
set_option maxHeartbeats 40000000 in
theorem rm46 (l : Launch) (Z : State) (a0 : Array Value) (hw : ∀ d ∈ tables_1, d.before a0 Z = true) (ws : List Jvm.Cond) (ob : Addr) (z : Int32) (h0 : Heap) (n0 : Nat) (Z0 : n0 ≤ h0.size) (EL : Exa Z h0 ob "com/example/cotab/cotab/ChunkedBytes") (FS : Fld Z h0 ob "com/example/cotab/cotab/ChunkedBytes" "size" "I" (.int z)) :
    MetFree l (⟨"com/example/cotab/cotab/ChunkedBytes", "size", "()I"⟩ : MethodName) (head1 (Jvm.Cond.code (⟨"com/example/cotab/cotab/ChunkedBytes", "size", "()I"⟩ : MethodName) prog_2_method_2_code 1 (some .int) :: ws) ({ frames := 0, cells := 0, slots := 0, locals := 0 } : Room)) (fun a U => a = #[(.ref ob)] ∧ Z.Warmed39 U.vm ∧ U.heap = h0) (fun _ _ _ _ _ => True) (fun _ U o U' => ∃ v L, o = .returned v ∧ Q46 Z ob z h0 n0 v U'.heap L ∧ FrameEnd U o U' L ({ frames := 0, cells := 0, slots := 0, locals := 0 } : Room).cells ({ frames := 0, cells := 0, slots := 0, locals := 0 } : Room).slots) := by
  refine MetFree.of_bodySF (plainFor_of_name pn_46) hisR ?_
  intro p e s m args below meth c s₁ Bd hml0 hP hK
  obtain ⟨rfl, hZ, hh⟩ := hP
  have hx := Bd.exec
  have hby := Bd.bytes
  have hml : c.maxLocals = 1 := hml0
  have hown : s.vm.findClass "com/example/cotab/cotab/ChunkedBytes" = some m.cls := findClass_of_methodNamed Bd.named
  have hnm := (name_of_methodNamed Bd.named Bd.method).1
  have X0 : Stand p l e ({ frames := 0, cells := 0, slots := 0, locals := 0 } : Room) s m #[(.ref ob)] below meth c s₁ [] 0 0 := Stand.of_body Bd
  have e0 : s₁.heap = h0 := by rw [← hh, Bd.state]; rfl
  have N0 := Fr.nil n0
  refine Gl.gen fun P hPost => ?_
  refine Gl.st (fun _ k => castTop (ef_46 m ob ) k) ?_
  show Gl p e below P (s₁.setTop (mkF m 0 #[.val (.ref ob)] []))
  refine Gl.st (fun _ k => XS.aloadN X0.here hx rfl (hb hby d46_0) rfl rfl k) ?_
  show Gl p e below P (s₁.setTop (mkF m 1 #[.val (.ref ob)] [(.ref ob)]))
  obtain ⟨T1, X1, e1, st1⟩ := getF X0 hx hZ hown (host := "") (Or.inl (hw _ (List.mem_of_getElem? (i := 63) rfl))) Via.refl e0 FS (g := (mkF m 1 #[.val (.ref ob)] [(.ref ob)])) rfl rfl (hb hby d46_1)
  refine Gl.st st1 ?_
  show Gl p e below P (T1.setTop (mkF m 4 #[.val (.ref ob)] [(.int z)]))
  obtain ⟨fs, hr, hrun, hended, hW, hsame⟩ := X1.leave (v := some (.int z)) (fun h => by rw [Bd.returns] at h; cases h)
  refine ⟨_, _, retOut X1 hx Bd.returns rfl (Or.inl ⟨rfl, Or.inl rfl, _, rfl⟩) (hb hby d46_4) hr, hrun, hended, hPost _ _ ⟨_, _, rfl, ?_, ⟨_, rfl⟩, hW, hsame.mono (by decide) (by decide)⟩⟩
  show Q46 Z ob z h0 n0 _ T1.heap _
  rw [e1]
  exact ⟨rfl, N0, rfl⟩
theorem pn_47 : plainName "jdk/internal/util/Preconditions" = true := by first | (simp [plainName, overriddenIn]; done) | decide +kernel
theorem ef_47 (m : MethodId) (x0 : Int32) (x1 : Int32) : entryFrame m #[(.int x0), (.int x1), .null] 3 = mkF m 0 #[.val (.int x0), .val (.int x1), .val .null] [] := by first | (simp [entryFrame, mkF, argsToLocals, Value.category]; done) | rfl
def Q47 (Z : State) (i : Nat) (n : Nat) (h0 : Heap) (n0 : Nat) (v : Option Value) (h : Heap) (L : List Loc) : Prop := v = some (.int (Int32.ofNat i)) ∧ Fr n0 L ∧ h = h0
set_option maxRecDepth 65536 in
set_option maxHeartbeats 40000000 in
theorem rm47 (l : Launch) (Z : State) (a0 : Array Value) (hw : ∀ d ∈ tables_1, d.before a0 Z = true) (ws : List Jvm.Cond) (i : Nat) (n : Nat) (h0 : Heap) (n0 : Nat) (Z0 : n0 ≤ h0.size) (hi : i < n) (hn : n ≤ 40) :
    MetFree l (⟨"jdk/internal/util/Preconditions", "checkIndex", "(IILjava/util/function/BiFunction;)I"⟩ : MethodName) (head1 (Jvm.Cond.code (⟨"jdk/internal/util/Preconditions", "checkIndex", "(IILjava/util/function/BiFunction;)I"⟩ : MethodName) jdk_41_method_11_code 3 (some .int) :: ws) ({ frames := 0, cells := 0, slots := 0, locals := 0 } : Room)) (fun a U => a = #[(.int (Int32.ofNat i)), (.int (Int32.ofNat n)), .null] ∧ Z.Warmed39 U.vm ∧ U.heap = h0) (fun _ _ _ _ _ => True) (fun _ U o U' => ∃ v L, o = .returned v ∧ Q47 Z i n h0 n0 v U'.heap L ∧ FrameEnd U o U' L ({ frames := 0, cells := 0, slots := 0, locals := 0 } : Room).cells ({ frames := 0, cells := 0, slots := 0, locals := 0 } : Room).slots) := by
  refine MetFree.of_bodySF (plainFor_of_name pn_47) hisR ?_
  intro p e s m args below meth c s₁ Bd hml0 hP hK
  obtain ⟨rfl, hZ, hh⟩ := hP
  have hx := Bd.exec
  have hby := Bd.bytes
  have hml : c.maxLocals = 3 := hml0
  have hown : s.vm.findClass "jdk/internal/util/Preconditions" = some m.cls := findClass_of_methodNamed Bd.named
  have hnm := (name_of_methodNamed Bd.named Bd.method).1
  have X0 : Stand p l e ({ frames := 0, cells := 0, slots := 0, locals := 0 } : Room) s m #[(.int (Int32.ofNat i)), (.int (Int32.ofNat n)), .null] below meth c s₁ [] 0 0 := Stand.of_body Bd
  have e0 : s₁.heap = h0 := by rw [← hh, Bd.state]; rfl
  have N0 := Fr.nil n0
  refine Gl.gen fun P hPost => ?_
  refine Gl.st (fun _ k => castTop (ef_47 m (Int32.ofNat i) (Int32.ofNat n) ) k) ?_
  show Gl p e below P (s₁.setTop (mkF m 0 #[.val (.int (Int32.ofNat i)), .val (.int (Int32.ofNat n)), .val .null] []))
  refine Gl.st (fun _ k => XS.iloadN X0.here hx rfl (hb hby d47_0) rfl k) ?_
  show Gl p e below P (s₁.setTop (mkF m 1 #[.val (.int (Int32.ofNat i)), .val (.int (Int32.ofNat n)), .val .null] [(.int (Int32.ofNat i))]))
  refine Gl.st (fun _ k => XS.ifNo X0.here hx rfl (hb hby d47_1) rfl ((if0 _ _).trans (flt (own_neg i (by omega) : ¬ ((Int32.ofNat i) < (0 : Int32)))).1) k) ?_
  show Gl p e below P (s₁.setTop (mkF m 4 #[.val (.int (Int32.ofNat i)), .val (.int (Int32.ofNat n)), .val .null] []))
  refine Gl.st (fun _ k => XS.iloadN X0.here hx rfl (hb hby d47_4) rfl k) ?_
  show Gl p e below P (s₁.setTop (mkF m 5 #[.val (.int (Int32.ofNat i)), .val (.int (Int32.ofNat n)), .val .null] [(.int (Int32.ofNat i))]))
  refine Gl.st (fun _ k => XS.iloadN X0.here hx rfl (hb hby d47_5) rfl k) ?_
  show Gl p e below P (s₁.setTop (mkF m 6 #[.val (.int (Int32.ofNat i)), .val (.int (Int32.ofNat n)), .val .null] [(.int (Int32.ofNat n)), (.int (Int32.ofNat i))]))
  refine Gl.st (fun _ k => XS.icmpYes X0.here hx rfl (pc0 := 6) (pc' := 16) rfl (hb hby d47_6) rfl (tlt ((own_lt i n (by omega) hn).mpr hi : (Int32.ofNat i) < (Int32.ofNat n))).1 (by decide) (by decide) k) ?_
  show Gl p e below P (s₁.setTop (mkF m 16 #[.val (.int (Int32.ofNat i)), .val (.int (Int32.ofNat n)), .val .null] []))
  refine Gl.st (fun _ k => XS.iloadN X0.here hx rfl (hb hby d47_16) rfl k) ?_
  show Gl p e below P (s₁.setTop (mkF m 17 #[.val (.int (Int32.ofNat i)), .val (.int (Int32.ofNat n)), .val .null] [(.int (Int32.ofNat i))]))
  obtain ⟨fs, hr, hrun, hended, hW, hsame⟩ := X0.leave (v := some (.int (Int32.ofNat i))) (fun h => by rw [Bd.returns] at h; cases h)
  refine ⟨_, _, retOut X0 hx Bd.returns rfl (Or.inl ⟨rfl, Or.inl rfl, _, rfl⟩) (hb hby d47_17) hr, hrun, hended, hPost _ _ ⟨_, _, rfl, ?_, ⟨_, rfl⟩, hW, hsame.mono (by decide) (by decide)⟩⟩
  show Q47 Z i n h0 n0 _ s₁.heap _
  rw [e0]
  exact ⟨rfl, N0, rfl⟩
theorem pn_48 : plainName "java/util/Objects" = true := by first | (simp [plainName, overriddenIn]; done) | decide +kernel
theorem ef_48 (m : MethodId) (x0 : Int32) (x1 : Int32) : entryFrame m #[(.int x0), (.int x1)] 2 = mkF m 0 #[.val (.int x0), .val (.int x1)] [] := by first | (simp [entryFrame, mkF, argsToLocals, Value.category]; done) | rfl
def Q48 (Z : State) (i : Nat) (n : Nat) (h0 : Heap) (n0 : Nat) (v : Option Value) (h : Heap) (L : List Loc) : Prop := v = some (.int (Int32.ofNat i)) ∧ Fr n0 L ∧ h = h0
set_option maxRecDepth 65536 in
set_option maxHeartbeats 40000000 in
theorem rm48 (l : Launch) (Z : State) (a0 : Array Value) (hw : ∀ d ∈ tables_1, d.before a0 Z = true) (ws : List Jvm.Cond) (i : Nat) (n : Nat) (h0 : Heap) (n0 : Nat) (Z0 : n0 ≤ h0.size) (hi : i < n) (hn : n ≤ 40) :
    MetFree l (⟨"java/util/Objects", "checkIndex", "(II)I"⟩ : MethodName) (head1 (Jvm.Cond.code (⟨"java/util/Objects", "checkIndex", "(II)I"⟩ : MethodName) jdk_31_method_17_code 2 (some .int) :: ws) ({ frames := 1, cells := 0, slots := 0, locals := 14 } : Room)) (fun a U => a = #[(.int (Int32.ofNat i)), (.int (Int32.ofNat n))] ∧ Z.Warmed39 U.vm ∧ U.heap = h0) (fun _ _ _ _ _ => True) (fun _ U o U' => ∃ v L, o = .returned v ∧ Q48 Z i n h0 n0 v U'.heap L ∧ FrameEnd U o U' L ({ frames := 1, cells := 0, slots := 0, locals := 14 } : Room).cells ({ frames := 1, cells := 0, slots := 0, locals := 14 } : Room).slots) := by
  refine MetFree.of_bodySF (plainFor_of_name pn_48) hisR ?_
  intro p e s m args below meth c s₁ Bd hml0 hP hK
  obtain ⟨rfl, hZ, hh⟩ := hP
  have hx := Bd.exec
  have hby := Bd.bytes
  have hml : c.maxLocals = 2 := hml0
  have hown : s.vm.findClass "java/util/Objects" = some m.cls := findClass_of_methodNamed Bd.named
  have hnm := (name_of_methodNamed Bd.named Bd.method).1
  have X0 : Stand p l e ({ frames := 1, cells := 0, slots := 0, locals := 14 } : Room) s m #[(.int (Int32.ofNat i)), (.int (Int32.ofNat n))] below meth c s₁ [] 0 0 := Stand.of_body Bd
  have e0 : s₁.heap = h0 := by rw [← hh, Bd.state]; rfl
  have N0 := Fr.nil n0
  refine Gl.gen fun P hPost => ?_
  refine Gl.st (fun _ k => castTop (ef_48 m (Int32.ofNat i) (Int32.ofNat n) ) k) ?_
  show Gl p e below P (s₁.setTop (mkF m 0 #[.val (.int (Int32.ofNat i)), .val (.int (Int32.ofNat n))] []))
  refine Gl.st (fun _ k => XS.iloadN X0.here hx rfl (hb hby d48_0) rfl k) ?_
  show Gl p e below P (s₁.setTop (mkF m 1 #[.val (.int (Int32.ofNat i)), .val (.int (Int32.ofNat n))] [(.int (Int32.ofNat i))]))
  refine Gl.st (fun _ k => XS.iloadN X0.here hx rfl (hb hby d48_1) rfl k) ?_
  show Gl p e below P (s₁.setTop (mkF m 2 #[.val (.int (Int32.ofNat i)), .val (.int (Int32.ofNat n))] [(.int (Int32.ofNat n)), (.int (Int32.ofNat i))]))
  refine Gl.st (fun _ k => XS.aconstNull X0.here hx rfl (hb hby d48_2) k) ?_
  show Gl p e below P (s₁.setTop (mkF m 3 #[.val (.int (Int32.ofNat i)), .val (.int (Int32.ofNat n))] [.null, (.int (Int32.ofNat n)), (.int (Int32.ofNat i))]))
  obtain ⟨_, _, ⟨T1, L1, k1, n1⟩, -, X1, ⟨Lc1, hQ1, l1, y1, z1⟩, st1⟩ := Jvm.LawKit.callS X0 hx (y := (⟨"jdk/internal/util/Preconditions", "checkIndex", "(IILjava/util/function/BiFunction;)I"⟩ : MethodName)) hown (mvT hZ (hw _ (List.mem_of_getElem? (i := 112) rfl))) (mvT hZ (hw _ (List.mem_of_getElem? (i := 113) rfl))) (mvT hZ (hw _ (List.mem_of_getElem? (i := 114) rfl))) (mvT hZ (hw _ (List.mem_of_getElem? (i := 115) rfl))) (by decide) (backOf (W := 0) (rm47 l Z a0 hw [] i n h0 n0 Z0 hi hn) hZ (hw _ (List.mem_of_getElem? (i := 115) rfl)) (hw _ (List.mem_of_getElem? (i := 114) rfl)) (by decide) (by decide)) (g := (mkF m 3 #[.val (.int (Int32.ofNat i)), .val (.int (Int32.ofNat n))] [.null, (.int (Int32.ofNat n)), (.int (Int32.ofNat i))])) rfl (by rw [hml]; rfl) (argsL := [(.int (Int32.ofNat i)), (.int (Int32.ofNat n)), .null]) (rest := []) (lenOf pd_1 rfl) rfl (by show 2 * 0 + _ ≤ _; exact Nat.le_of_eq rfl) (hb hby d48_3) (fun _ _ => ⟨rfl, e0, (by decide : 0 + 0 ≤ _), (by decide : 0 + 0 ≤ _)⟩)
  dsimp only [Pt.U, Pt.locs, Pt.cells, Pt.slots] at X1 l1 y1 z1 st1 hQ1
  subst l1 y1 z1
  obtain ⟨rfl, N1q, e1⟩ := hQ1
  have N1 := Fr.app N0 N1q
  refine Gl.st st1 ?_
  show Gl p e below P (T1.setTop (mkF m 6 #[.val (.int (Int32.ofNat i)), .val (.int (Int32.ofNat n))] [(.int (Int32.ofNat i))]))
  obtain ⟨fs, hr, hrun, hended, hW, hsame⟩ := X1.leave (v := some (.int (Int32.ofNat i))) (fun h => by rw [Bd.returns] at h; cases h)
  refine ⟨_, _, retOut X1 hx Bd.returns rfl (Or.inl ⟨rfl, Or.inl rfl, _, rfl⟩) (hb hby d48_6) hr, hrun, hended, hPost _ _ ⟨_, _, rfl, ?_, ⟨_, rfl⟩, hW, hsame.mono (by decide) (by decide)⟩⟩
  show Q48 Z i n h0 n0 _ T1.heap _
  rw [e1]
  exact ⟨rfl, N1, rfl⟩
theorem pn_49 : plainName "java/util/ArrayList" = true := by first | (simp [plainName, overriddenIn]; done) | decide +kernel
theorem ef_49 (m : MethodId) (x0 : Addr) (x1 : Int32) : entryFrame m #[(.ref x0), (.int x1)] 2 = mkF m 0 #[.val (.ref x0), .val (.int x1)] [] := by first | (simp [entryFrame, mkF, argsToLocals, Value.category]; done) | rfl
def Q49 (Z : State) (li : Addr) (ed : Addr) (ke : ClassId) (cap : Nat) (n : Nat) (vs : List Value) (mc : Int32) (dc : Addr) (i : Nat) (ck : Addr) (h0 : Heap) (n0 : Nat) (v : Option Value) (h : Heap) (L : List Loc) : Prop := v = some (.ref ck) ∧ Fr n0 L ∧ h = h0
set_option maxRecDepth 65536 in
set_option maxHeartbeats 40000000 in
theorem rm49 (l : Launch) (Z : State) (a0 : Array Value) (hw : ∀ d ∈ tables_1, d.before a0 Z = true) (ws : List Jvm.Cond) (li : Addr) (ed : Addr) (ke : ClassId) (cap : Nat) (n : Nat) (vs : List Value) (mc : Int32) (dc : Addr) (i : Nat) (ck : Addr) (h0 : Heap) (n0 : Nat) (Z0 : n0 ≤ h0.size) (HL : own_Ls Z n0 dc h0 li ed ke cap n vs mc) (hi : i < n) (hcc : cap ≤ 40) (hv : vs.getD i .null = .ref ck) :
    MetFree l (⟨"java/util/ArrayList", "elementData", "(I)Ljava/lang/Object;"⟩ : MethodName) (head1 (Jvm.Cond.code (⟨"java/util/ArrayList", "elementData", "(I)Ljava/lang/Object;"⟩ : MethodName) jdk_38_method_18_code 2 (some (.object "java/lang/Object")) :: ws) ({ frames := 0, cells := 0, slots := 0, locals := 0 } : Room)) (fun a U => a = #[(.ref li), (.int (Int32.ofNat i))] ∧ Z.Warmed39 U.vm ∧ U.heap = h0) (fun _ _ _ _ _ => True) (fun _ U o U' => ∃ v L, o = .returned v ∧ Q49 Z li ed ke cap n vs mc dc i ck h0 n0 v U'.heap L ∧ FrameEnd U o U' L ({ frames := 0, cells := 0, slots := 0, locals := 0 } : Room).cells ({ frames := 0, cells := 0, slots := 0, locals := 0 } : Room).slots) := by
  refine MetFree.of_bodySF (plainFor_of_name pn_49) hisR ?_
  intro p e s m args below meth c s₁ Bd hml0 hP hK
  obtain ⟨rfl, hZ, hh⟩ := hP
  have hx := Bd.exec
  have hby := Bd.bytes
  have hml : c.maxLocals = 2 := hml0
  have hown : s.vm.findClass "java/util/ArrayList" = some m.cls := findClass_of_methodNamed Bd.named
  have hnm := (name_of_methodNamed Bd.named Bd.method).1
  have X0 : Stand p l e ({ frames := 0, cells := 0, slots := 0, locals := 0 } : Room) s m #[(.ref li), (.int (Int32.ofNat i))] below meth c s₁ [] 0 0 := Stand.of_body Bd
  have e0 : s₁.heap = h0 := by rw [← hh, Bd.state]; rfl
  have N0 := Fr.nil n0
  refine Gl.gen fun P hPost => ?_
  refine Gl.st (fun _ k => castTop (ef_49 m li (Int32.ofNat i) ) k) ?_
  show Gl p e below P (s₁.setTop (mkF m 0 #[.val (.ref li), .val (.int (Int32.ofNat i))] []))
  obtain ⟨EL, FD, FS, FM, EE, VE, LE, hvl, hnc, hcp⟩ := id HL
  have nle : li ≠ ed := EL.neArv VE (hw _ (List.mem_of_getElem? (i := 16) rfl))
  refine Gl.st (fun _ k => XS.aloadN X0.here hx rfl (hb hby d49_0) rfl rfl k) ?_
  show Gl p e below P (s₁.setTop (mkF m 1 #[.val (.ref li), .val (.int (Int32.ofNat i))] [(.ref li)]))
  obtain ⟨T1, X1, e1, st1⟩ := getF X0 hx hZ hown (host := "") (Or.inl (hw _ (List.mem_of_getElem? (i := 37) rfl))) Via.refl e0 FD (g := (mkF m 1 #[.val (.ref li), .val (.int (Int32.ofNat i))] [(.ref li)])) rfl rfl (hb hby d49_1)
  refine Gl.st st1 ?_
  show Gl p e below P (T1.setTop (mkF m 4 #[.val (.ref li), .val (.int (Int32.ofNat i))] [(.ref ed)]))
  refine Gl.st (fun _ k => XS.iloadN X1.here hx rfl (hb hby d49_4) rfl k) ?_
  show Gl p e below P (T1.setTop (mkF m 5 #[.val (.ref li), .val (.int (Int32.ofNat i))] [(.int (Int32.ofNat i)), (.ref ed)]))
  obtain ⟨c2, Ar2, q2, S2, M2, H2, U2⟩ := id VE
  have hin2 : ¬ ((Int32.ofNat i) < 0 ∨ c2.slots.size ≤ ((Int32.ofNat i)).toNatClampNeg) := inb_of S2 ⟨(own_neg i (by omega)), ((own_lt i cap (by omega) hcc).mpr (by omega))⟩
  have hat2 : c2.slots[((Int32.ofNat i)).toNatClampNeg]? = some (.ref ck) := H2.at hin2 (by rw [own_nn i (by omega)]; exact hv)
  refine Gl.st (X1.aaload hx (j := (Int32.ofNat i)) (v := (.ref ck)) (by rw [e1]; exact Ar2.1) (State.isArrayOf_alike hZ.alike Ar2.2.1) rfl Ar2.2.2 hin2 hat2 (g := (mkF m 5 #[.val (.ref li), .val (.int (Int32.ofNat i))] [(.int (Int32.ofNat i)), (.ref ed)])) rfl rfl (hb hby d49_5)) ?_
  show Gl p e below P (T1.setTop (mkF m 6 #[.val (.ref li), .val (.int (Int32.ofNat i))] [(.ref ck)]))
  obtain ⟨fs, hr, hrun, hended, hW, hsame⟩ := X1.leave (v := some (.ref ck)) (fun h => by rw [Bd.returns] at h; cases h)
  refine ⟨_, _, retOut X1 hx Bd.returns rfl (Or.inr (Or.inr (Or.inr (Or.inr ⟨rfl, rfl, rfl⟩)))) (hb hby d49_6) hr, hrun, hended, hPost _ _ ⟨_, _, rfl, ?_, ⟨_, rfl⟩, hW, hsame.mono (by decide) (by decide)⟩⟩
  show Q49 Z li ed ke cap n vs mc dc i ck h0 n0 _ T1.heap _
  rw [e1]
  exact ⟨rfl, N0, rfl⟩
theorem pn_50 : plainName "java/util/ArrayList" = true := by first | (simp [plainName, overriddenIn]; done) | decide +kernel
theorem ef_50 (m : MethodId) (x0 : Addr) (x1 : Int32) : entryFrame m #[(.ref x0), (.int x1)] 2 = mkF m 0 #[.val (.ref x0), .val (.int x1)] [] := by first | (simp [entryFrame, mkF, argsToLocals, Value.category]; done) | rfl
def Q50 (Z : State) (li : Addr) (ed : Addr) (ke : ClassId) (cap : Nat) (n : Nat) (vs : List Value) (mc : Int32) (dc : Addr) (i : Nat) (ck : Addr) (h0 : Heap) (n0 : Nat) (v : Option Value) (h : Heap) (L : List Loc) : Prop := v = some (.ref ck) ∧ Fr n0 L ∧ h = h0
set_option maxRecDepth 65536 in
set_option maxHeartbeats 40000000 in
theorem rm50 (l : Launch) (Z : State) (a0 : Array Value) (hw : ∀ d ∈ tables_1, d.before a0 Z = true) (ws : List Jvm.Cond) (li : Addr) (ed : Addr) (ke : ClassId) (cap : Nat) (n : Nat) (vs : List Value) (mc : Int32) (dc : Addr) (i : Nat) (ck : Addr) (h0 : Heap) (n0 : Nat) (Z0 : n0 ≤ h0.size) (HL : own_Ls Z n0 dc h0 li ed ke cap n vs mc) (hi : i < n) (hcc : cap ≤ 40) (hv : vs.getD i .null = .ref ck) :
    MetFree l (⟨"java/util/ArrayList", "get", "(I)Ljava/lang/Object;"⟩ : MethodName) (head1 (Jvm.Cond.code (⟨"java/util/ArrayList", "get", "(I)Ljava/lang/Object;"⟩ : MethodName) jdk_38_method_20_code 2 (some (.object "java/lang/Object")) :: ws) ({ frames := 2, cells := 0, slots := 0, locals := 27 } : Room)) (fun a U => a = #[(.ref li), (.int (Int32.ofNat i))] ∧ Z.Warmed39 U.vm ∧ U.heap = h0) (fun _ _ _ _ _ => True) (fun _ U o U' => ∃ v L, o = .returned v ∧ Q50 Z li ed ke cap n vs mc dc i ck h0 n0 v U'.heap L ∧ FrameEnd U o U' L ({ frames := 2, cells := 0, slots := 0, locals := 27 } : Room).cells ({ frames := 2, cells := 0, slots := 0, locals := 27 } : Room).slots) := by
  refine MetFree.of_bodySF (plainFor_of_name pn_50) hisR ?_
  intro p e s m args below meth c s₁ Bd hml0 hP hK
  obtain ⟨rfl, hZ, hh⟩ := hP
  have hx := Bd.exec
  have hby := Bd.bytes
  have hml : c.maxLocals = 2 := hml0
  have hown : s.vm.findClass "java/util/ArrayList" = some m.cls := findClass_of_methodNamed Bd.named
  have hnm := (name_of_methodNamed Bd.named Bd.method).1
  have X0 : Stand p l e ({ frames := 2, cells := 0, slots := 0, locals := 27 } : Room) s m #[(.ref li), (.int (Int32.ofNat i))] below meth c s₁ [] 0 0 := Stand.of_body Bd
  have e0 : s₁.heap = h0 := by rw [← hh, Bd.state]; rfl
  have N0 := Fr.nil n0
  refine Gl.gen fun P hPost => ?_
  refine Gl.st (fun _ k => castTop (ef_50 m li (Int32.ofNat i) ) k) ?_
  show Gl p e below P (s₁.setTop (mkF m 0 #[.val (.ref li), .val (.int (Int32.ofNat i))] []))
  obtain ⟨EL, FD, FS, FM, EE, VE, LE, hvl, hnc, hcp⟩ := id HL
  have nle : li ≠ ed := EL.neArv VE (hw _ (List.mem_of_getElem? (i := 16) rfl))
  refine Gl.st (fun _ k => XS.iloadN X0.here hx rfl (hb hby d50_0) rfl k) ?_
  show Gl p e below P (s₁.setTop (mkF m 1 #[.val (.ref li), .val (.int (Int32.ofNat i))] [(.int (Int32.ofNat i))]))
  refine Gl.st (fun _ k => XS.aloadN X0.here hx rfl (hb hby d50_1) rfl rfl k) ?_
  show Gl p e below P (s₁.setTop (mkF m 2 #[.val (.ref li), .val (.int (Int32.ofNat i))] [(.ref li), (.int (Int32.ofNat i))]))
  obtain ⟨T1, X1, e1, st1⟩ := getF X0 hx hZ hown (host := "") (Or.inl (hw _ (List.mem_of_getElem? (i := 61) rfl))) Via.refl e0 FS (g := (mkF m 2 #[.val (.ref li), .val (.int (Int32.ofNat i))] [(.ref li), (.int (Int32.ofNat i))])) rfl rfl (hb hby d50_2)
  refine Gl.st st1 ?_
  show Gl p e below P (T1.setTop (mkF m 5 #[.val (.ref li), .val (.int (Int32.ofNat i))] [(.int (Int32.ofNat n)), (.int (Int32.ofNat i))]))
  obtain ⟨_, _, ⟨T2, L2, k2, n2⟩, -, X2, ⟨Lc2, hQ2, l2, y2, z2⟩, st2⟩ := Jvm.LawKit.callS X1 hx (y := (⟨"java/util/Objects", "checkIndex", "(II)I"⟩ : MethodName)) hown (mvT hZ (hw _ (List.mem_of_getElem? (i := 108) rfl))) (mvT hZ (hw _ (List.mem_of_getElem? (i := 109) rfl))) (mvT hZ (hw _ (List.mem_of_getElem? (i := 110) rfl))) (mvT hZ (hw _ (List.mem_of_getElem? (i := 111) rfl))) (by decide) (backOf (W := 0) (rm48 l Z a0 hw [] i n h0 n0 Z0 hi (by omega)) hZ (hw _ (List.mem_of_getElem? (i := 111) rfl)) (hw _ (List.mem_of_getElem? (i := 110) rfl)) (by decide) (by decide)) (g := (mkF m 5 #[.val (.ref li), .val (.int (Int32.ofNat i))] [(.int (Int32.ofNat n)), (.int (Int32.ofNat i))])) rfl (by rw [hml]; rfl) (argsL := [(.int (Int32.ofNat i)), (.int (Int32.ofNat n))]) (rest := []) (lenOf pd_2 rfl) rfl (by show 2 * 0 + _ ≤ _; exact Nat.le_of_eq rfl) (hb hby d50_5) (fun _ _ => ⟨rfl, e1, (by decide : 0 + 0 ≤ _), (by decide : 0 + 0 ≤ _)⟩)
  dsimp only [Pt.U, Pt.locs, Pt.cells, Pt.slots] at X2 l2 y2 z2 st2 hQ2
  subst l2 y2 z2
  obtain ⟨rfl, N2q, e2⟩ := hQ2
  have N2 := Fr.app N0 N2q
  refine Gl.st st2 ?_
  show Gl p e below P (T2.setTop (mkF m 8 #[.val (.ref li), .val (.int (Int32.ofNat i))] [(.int (Int32.ofNat i))]))
  refine Gl.st (fun _ k => XS.pop X2.here hx rfl (hb hby d50_8) rfl rfl k) ?_
  show Gl p e below P (T2.setTop (mkF m 9 #[.val (.ref li), .val (.int (Int32.ofNat i))] []))
  refine Gl.st (fun _ k => XS.aloadN X2.here hx rfl (hb hby d50_9) rfl rfl k) ?_
  show Gl p e below P (T2.setTop (mkF m 10 #[.val (.ref li), .val (.int (Int32.ofNat i))] [(.ref li)]))
  refine Gl.st (fun _ k => XS.iloadN X2.here hx rfl (hb hby d50_10) rfl k) ?_
  show Gl p e below P (T2.setTop (mkF m 11 #[.val (.ref li), .val (.int (Int32.ofNat i))] [(.int (Int32.ofNat i)), (.ref li)]))
  obtain ⟨cq3, kq3, q3a, q3b, q3c⟩ := isOf hZ e2 EL
  obtain ⟨_, _, ⟨T3, L3, k3, n3⟩, -, X3, ⟨Lc3, hQ3, l3, y3, z3⟩, st3⟩ := X2.virtualBack hx (y := (⟨"java/util/ArrayList", "elementData", "(I)Ljava/lang/Object;"⟩ : MethodName)) (z := (⟨"java/util/ArrayList", "elementData", "(I)Ljava/lang/Object;"⟩ : MethodName)) hown (mvT hZ (hw _ (List.mem_of_getElem? (i := 116) rfl))) (mvT hZ (hw _ (List.mem_of_getElem? (i := 117) rfl))) (notFace_of_selects (args := #[]) (mvT hZ (hw _ (List.mem_of_getElem? (i := 119) rfl)))) (mvT hZ (hw _ (List.mem_of_getElem? (i := 119) rfl))) (mvT hZ (hw _ (List.mem_of_getElem? (i := 118) rfl))) (by decide) (backOf (W := 0) (rm49 l Z a0 hw [] li ed ke cap n vs mc dc i ck h0 n0 Z0 HL hi hcc hv) hZ (hw _ (List.mem_of_getElem? (i := 120) rfl)) (hw _ (List.mem_of_getElem? (i := 17) rfl)) (by decide) (by decide)) q3a q3c (g := (mkF m 11 #[.val (.ref li), .val (.int (Int32.ofNat i))] [(.int (Int32.ofNat i)), (.ref li)])) rfl (by rw [hml]; rfl) (Steps.refl _) (argsL := [(.int (Int32.ofNat i))]) (rest := []) (lenOf pd_3 rfl) rfl (by show 2 * 0 + _ ≤ _; exact Nat.le_of_eq rfl) (hb hby d50_11) (fun _ _ => ⟨rfl, e2, (by decide : 0 + 0 ≤ _), (by decide : 0 + 0 ≤ _)⟩)
  dsimp only [Pt.U, Pt.locs, Pt.cells, Pt.slots] at X3 l3 y3 z3 st3 hQ3
  subst l3 y3 z3
  obtain ⟨rfl, N3q, e3⟩ := hQ3
  have N3 := Fr.app N2 N3q
  refine Gl.tr st3 ?_
  show Gl p e below P (T3.setTop (mkF m 14 #[.val (.ref li), .val (.int (Int32.ofNat i))] [(.ref ck)]))
  obtain ⟨fs, hr, hrun, hended, hW, hsame⟩ := X3.leave (v := some (.ref ck)) (fun h => by rw [Bd.returns] at h; cases h)
  refine ⟨_, _, retOut X3 hx Bd.returns rfl (Or.inr (Or.inr (Or.inr (Or.inr ⟨rfl, rfl, rfl⟩)))) (hb hby d50_14) hr, hrun, hended, hPost _ _ ⟨_, _, rfl, ?_, ⟨_, rfl⟩, hW, hsame.mono (by decide) (by decide)⟩⟩
  show Q50 Z li ed ke cap n vs mc dc i ck h0 n0 _ T3.heap _
  rw [e3]
  exact ⟨rfl, N3, rfl⟩
theorem ef_51 (m : MethodId) (x0 : Int32) (x1 : Int32) : entryFrame m #[(.int x0), (.int x1)] 2 = mkF m 0 #[.val (.int x0), .val (.int x1)] [] := by first | (simp [entryFrame, mkF, argsToLocals, Value.category]; done) | rfl
def Q51 (Z : State) (p1 : Int32) (p2 : Int32) (z : Int32) (h0 : Heap) (n0 : Nat) (v : Option Value) (h : Heap) (L : List Loc) : Prop := v = some (.int z) ∧ Fr n0 L ∧ h = h0
set_option maxRecDepth 65536 in
set_option maxHeartbeats 40000000 in
theorem rm51 (l : Launch) (Z : State) (a0 : Array Value) (hw : ∀ d ∈ tables_1, d.before a0 Z = true) (ws : List Jvm.Cond) (p1 : Int32) (p2 : Int32) (z : Int32) (h0 : Heap) (n0 : Nat) (Z0 : n0 ≤ h0.size) (hz : (p2 < p1 ∧ z = p2) ∨ (¬ p2 < p1 ∧ z = p1)) :
    MetFree l (⟨"java/lang/Math", "min", "(II)I"⟩ : MethodName) (head1 (Jvm.Cond.code (⟨"java/lang/Math", "min", "(II)I"⟩ : MethodName) jdk_29_method_69_code 2 (some .int) :: ws) ({ frames := 0, cells := 0, slots := 0, locals := 0 } : Room)) (fun a U => a = #[(.int p1), (.int p2)] ∧ Z.Warmed39 U.vm ∧ U.heap = h0) (fun _ _ _ _ _ => True) (fun _ U o U' => ∃ v L, o = .returned v ∧ Q51 Z p1 p2 z h0 n0 v U'.heap L ∧ FrameEnd U o U' L ({ frames := 0, cells := 0, slots := 0, locals := 0 } : Room).cells ({ frames := 0, cells := 0, slots := 0, locals := 0 } : Room).slots) := by
  refine MetFree.of_bodySF (Jvm.Free.JP.mathPlain rfl (by decide +kernel)) hisR ?_
  intro p e s m args below meth c s₁ Bd hml0 hP hK
  obtain ⟨rfl, hZ, hh⟩ := hP
  have hx := Bd.exec
  have hby := Bd.bytes
  have hml : c.maxLocals = 2 := hml0
  have hown : s.vm.findClass "java/lang/Math" = some m.cls := findClass_of_methodNamed Bd.named
  have hnm := (name_of_methodNamed Bd.named Bd.method).1
  have X0 : Stand p l e ({ frames := 0, cells := 0, slots := 0, locals := 0 } : Room) s m #[(.int p1), (.int p2)] below meth c s₁ [] 0 0 := Stand.of_body Bd
  have e0 : s₁.heap = h0 := by rw [← hh, Bd.state]; rfl
  have N0 := Fr.nil n0
  refine Gl.gen fun P hPost => ?_
  refine Gl.st (fun _ k => castTop (ef_51 m p1 p2 ) k) ?_
  show Gl p e below P (s₁.setTop (mkF m 0 #[.val (.int p1), .val (.int p2)] []))
  refine Gl.st (fun _ k => XS.iloadN X0.here hx rfl (hb hby d51_0) rfl k) ?_
  show Gl p e below P (s₁.setTop (mkF m 1 #[.val (.int p1), .val (.int p2)] [(.int p1)]))
  refine Gl.st (fun _ k => XS.iloadN X0.here hx rfl (hb hby d51_1) rfl k) ?_
  show Gl p e below P (s₁.setTop (mkF m 2 #[.val (.int p1), .val (.int p2)] [(.int p2), (.int p1)]))
  rcases hz with ⟨hq, hz⟩ | ⟨hq, hz⟩
  · refine Gl.st (fun _ k => XS.icmpYes X0.here hx rfl (pc0 := 2) (pc' := 9) rfl (hb hby d51_2) rfl (tlt (hq : p2 < p1)).2.2.1 (by decide) (by decide) k) ?_
    show Gl p e below P (s₁.setTop (mkF m 9 #[.val (.int p1), .val (.int p2)] []))
    refine Gl.st (fun _ k => XS.iloadN X0.here hx rfl (hb hby d51_9) rfl k) ?_
    show Gl p e below P (s₁.setTop (mkF m 10 #[.val (.int p1), .val (.int p2)] [(.int p2)]))
    obtain ⟨fs, hr, hrun, hended, hW, hsame⟩ := X0.leave (v := some (.int p2)) (fun h => by rw [Bd.returns] at h; cases h)
    refine ⟨_, _, retOut X0 hx Bd.returns rfl (Or.inl ⟨rfl, Or.inl rfl, _, rfl⟩) (hb hby d51_10) hr, hrun, hended, hPost _ _ ⟨_, _, rfl, ?_, ⟨_, rfl⟩, hW, hsame.mono (by decide) (by decide)⟩⟩
    show Q51 Z p1 p2 z h0 n0 _ s₁.heap _
    rw [e0]
    exact ⟨by rw [hz], N0, rfl⟩
  · refine Gl.st (fun _ k => XS.icmpNo X0.here hx rfl (hb hby d51_2) rfl (flt (hq : ¬ (p2 < p1))).2.2.1 k) ?_
    show Gl p e below P (s₁.setTop (mkF m 5 #[.val (.int p1), .val (.int p2)] []))
    refine Gl.st (fun _ k => XS.iloadN X0.here hx rfl (hb hby d51_5) rfl k) ?_
    show Gl p e below P (s₁.setTop (mkF m 6 #[.val (.int p1), .val (.int p2)] [(.int p1)]))
    refine Gl.st (fun _ k => XS.goto X0.here hx rfl (pc0 := 6) (pc' := 10) rfl (hb hby d51_6) (by decide) (by decide) k) ?_
    show Gl p e below P (s₁.setTop (mkF m 10 #[.val (.int p1), .val (.int p2)] [(.int p1)]))
    obtain ⟨fs, hr, hrun, hended, hW, hsame⟩ := X0.leave (v := some (.int p1)) (fun h => by rw [Bd.returns] at h; cases h)
    refine ⟨_, _, retOut X0 hx Bd.returns rfl (Or.inl ⟨rfl, Or.inl rfl, _, rfl⟩) (hb hby d51_10) hr, hrun, hended, hPost _ _ ⟨_, _, rfl, ?_, ⟨_, rfl⟩, hW, hsame.mono (by decide) (by decide)⟩⟩
    show Q51 Z p1 p2 z h0 n0 _ s₁.heap _
    rw [e0]
    exact ⟨by rw [hz], N0, rfl⟩
theorem ef_52 (m : MethodId) (x0 : Int32) (x1 : Int32) : entryFrame m #[(.int x0), (.int x1)] 2 = mkF m 0 #[.val (.int x0), .val (.int x1)] [] := by first | (simp [entryFrame, mkF, argsToLocals, Value.category]; done) | rfl
def Q52 (Z : State) (p1 : Int32) (p2 : Int32) (z : Int32) (h0 : Heap) (n0 : Nat) (v : Option Value) (h : Heap) (L : List Loc) : Prop := v = some (.int z) ∧ Fr n0 L ∧ h = h0
set_option maxRecDepth 65536 in
set_option maxHeartbeats 40000000 in
theorem rm52 (l : Launch) (Z : State) (a0 : Array Value) (hw : ∀ d ∈ tables_1, d.before a0 Z = true) (ws : List Jvm.Cond) (p1 : Int32) (p2 : Int32) (z : Int32) (h0 : Heap) (n0 : Nat) (Z0 : n0 ≤ h0.size) (hz : (p1 < p2 ∧ z = p2) ∨ (¬ p1 < p2 ∧ z = p1)) :
    MetFree l (⟨"java/lang/Math", "max", "(II)I"⟩ : MethodName) (head1 (Jvm.Cond.code (⟨"java/lang/Math", "max", "(II)I"⟩ : MethodName) jdk_29_method_65_code 2 (some .int) :: ws) ({ frames := 0, cells := 0, slots := 0, locals := 0 } : Room)) (fun a U => a = #[(.int p1), (.int p2)] ∧ Z.Warmed39 U.vm ∧ U.heap = h0) (fun _ _ _ _ _ => True) (fun _ U o U' => ∃ v L, o = .returned v ∧ Q52 Z p1 p2 z h0 n0 v U'.heap L ∧ FrameEnd U o U' L ({ frames := 0, cells := 0, slots := 0, locals := 0 } : Room).cells ({ frames := 0, cells := 0, slots := 0, locals := 0 } : Room).slots) := by
  refine MetFree.of_bodySF (Jvm.Free.JP.mathPlain rfl (by decide +kernel)) hisR ?_
  intro p e s m args below meth c s₁ Bd hml0 hP hK
  obtain ⟨rfl, hZ, hh⟩ := hP
  have hx := Bd.exec
  have hby := Bd.bytes
  have hml : c.maxLocals = 2 := hml0
  have hown : s.vm.findClass "java/lang/Math" = some m.cls := findClass_of_methodNamed Bd.named
  have hnm := (name_of_methodNamed Bd.named Bd.method).1
  have X0 : Stand p l e ({ frames := 0, cells := 0, slots := 0, locals := 0 } : Room) s m #[(.int p1), (.int p2)] below meth c s₁ [] 0 0 := Stand.of_body Bd
  have e0 : s₁.heap = h0 := by rw [← hh, Bd.state]; rfl
  have N0 := Fr.nil n0
  refine Gl.gen fun P hPost => ?_
  refine Gl.st (fun _ k => castTop (ef_52 m p1 p2 ) k) ?_
  show Gl p e below P (s₁.setTop (mkF m 0 #[.val (.int p1), .val (.int p2)] []))
  refine Gl.st (fun _ k => XS.iloadN X0.here hx rfl (hb hby d52_0) rfl k) ?_
  show Gl p e below P (s₁.setTop (mkF m 1 #[.val (.int p1), .val (.int p2)] [(.int p1)]))
  refine Gl.st (fun _ k => XS.iloadN X0.here hx rfl (hb hby d52_1) rfl k) ?_
  show Gl p e below P (s₁.setTop (mkF m 2 #[.val (.int p1), .val (.int p2)] [(.int p2), (.int p1)]))
  rcases hz with ⟨hq, hz⟩ | ⟨hq, hz⟩
  · refine Gl.st (fun _ k => XS.icmpYes X0.here hx rfl (pc0 := 2) (pc' := 9) rfl (hb hby d52_2) rfl (tlt (hq : p1 < p2)).1 (by decide) (by decide) k) ?_
    show Gl p e below P (s₁.setTop (mkF m 9 #[.val (.int p1), .val (.int p2)] []))
    refine Gl.st (fun _ k => XS.iloadN X0.here hx rfl (hb hby d52_9) rfl k) ?_
    show Gl p e below P (s₁.setTop (mkF m 10 #[.val (.int p1), .val (.int p2)] [(.int p2)]))
    obtain ⟨fs, hr, hrun, hended, hW, hsame⟩ := X0.leave (v := some (.int p2)) (fun h => by rw [Bd.returns] at h; cases h)
    refine ⟨_, _, retOut X0 hx Bd.returns rfl (Or.inl ⟨rfl, Or.inl rfl, _, rfl⟩) (hb hby d52_10) hr, hrun, hended, hPost _ _ ⟨_, _, rfl, ?_, ⟨_, rfl⟩, hW, hsame.mono (by decide) (by decide)⟩⟩
    show Q52 Z p1 p2 z h0 n0 _ s₁.heap _
    rw [e0]
    exact ⟨by rw [hz], N0, rfl⟩
  · refine Gl.st (fun _ k => XS.icmpNo X0.here hx rfl (hb hby d52_2) rfl (flt (hq : ¬ (p1 < p2))).1 k) ?_
    show Gl p e below P (s₁.setTop (mkF m 5 #[.val (.int p1), .val (.int p2)] []))
    refine Gl.st (fun _ k => XS.iloadN X0.here hx rfl (hb hby d52_5) rfl k) ?_
    show Gl p e below P (s₁.setTop (mkF m 6 #[.val (.int p1), .val (.int p2)] [(.int p1)]))
    refine Gl.st (fun _ k => XS.goto X0.here hx rfl (pc0 := 6) (pc' := 10) rfl (hb hby d52_6) (by decide) (by decide) k) ?_
    show Gl p e below P (s₁.setTop (mkF m 10 #[.val (.int p1), .val (.int p2)] [(.int p1)]))
    obtain ⟨fs, hr, hrun, hended, hW, hsame⟩ := X0.leave (v := some (.int p1)) (fun h => by rw [Bd.returns] at h; cases h)
    refine ⟨_, _, retOut X0 hx Bd.returns rfl (Or.inl ⟨rfl, Or.inl rfl, _, rfl⟩) (hb hby d52_10) hr, hrun, hended, hPost _ _ ⟨_, _, rfl, ?_, ⟨_, rfl⟩, hW, hsame.mono (by decide) (by decide)⟩⟩
    show Q52 Z p1 p2 z h0 n0 _ s₁.heap _
    rw [e0]
    exact ⟨by rw [hz], N0, rfl⟩
theorem pn_610 : plainName "jdk/internal/util/ArraysSupport" = true := by first | (simp [plainName, overriddenIn]; done) | decide +kernel
theorem ef_610 (m : MethodId) (x0 : Int32) (x1 : Int32) (x2 : Int32) : entryFrame m #[(.int x0), (.int x1), (.int x2)] 4 = mkF m 0 #[.val (.int x0), .val (.int x1), .val (.int x2), .unset] [] := by first | (simp [entryFrame, mkF, argsToLocals, Value.category]; done) | rfl
def Q610 (Z : State) (x9 : Nat) (h0 : Heap) (n0 : Nat) (v : Option Value) (h : Heap) (L : List Loc) : Prop := v = some (.int (15 : Int32)) ∧ Fr n0 L ∧ h = h0
set_option maxRecDepth 65536 in
set_option maxHeartbeats 40000000 in
theorem rm610 (l : Launch) (Z : State) (a0 : Array Value) (hw : ∀ d ∈ tables_1, d.before a0 Z = true) (ws : List Jvm.Cond) (x9 : Nat) (h0 : Heap) (n0 : Nat) (Z0 : n0 ≤ h0.size)  :
    MetFree l (⟨"jdk/internal/util/ArraysSupport", "newLength", "(III)I"⟩ : MethodName) (head1 (Jvm.Cond.code (⟨"jdk/internal/util/ArraysSupport", "newLength", "(III)I"⟩ : MethodName) jdk_48_method_27_code 4 (some .int) :: ws) ({ frames := 1, cells := 0, slots := 0, locals := 16 } : Room)) (fun a U => a = #[(.int (10 : Int32)), (.int (1 : Int32)), (.int (5 : Int32))] ∧ Z.Warmed39 U.vm ∧ U.heap = h0) (fun _ _ _ _ _ => True) (fun _ U o U' => ∃ v L, o = .returned v ∧ Q610 Z x9 h0 n0 v U'.heap L ∧ FrameEnd U o U' L ({ frames := 1, cells := 0, slots := 0, locals := 16 } : Room).cells ({ frames := 1, cells := 0, slots := 0, locals := 16 } : Room).slots) := by
  refine MetFree.of_bodySF (plainFor_of_name pn_610) hisR ?_
  intro p e s m args below meth c s₁ Bd hml0 hP hK
  obtain ⟨rfl, hZ, hh⟩ := hP
  have hx := Bd.exec
  have hby := Bd.bytes
  have hml : c.maxLocals = 4 := hml0
  have hown : s.vm.findClass "jdk/internal/util/ArraysSupport" = some m.cls := findClass_of_methodNamed Bd.named
  have hnm := (name_of_methodNamed Bd.named Bd.method).1
  have X0 : Stand p l e ({ frames := 1, cells := 0, slots := 0, locals := 16 } : Room) s m #[(.int (10 : Int32)), (.int (1 : Int32)), (.int (5 : Int32))] below meth c s₁ [] 0 0 := Stand.of_body Bd
  have e0 : s₁.heap = h0 := by rw [← hh, Bd.state]; rfl
  have N0 := Fr.nil n0
  refine Gl.gen fun P hPost => ?_
  refine Gl.st (fun _ k => castTop (ef_610 m (10 : Int32) (1 : Int32) (5 : Int32) ) k) ?_
  show Gl p e below P (s₁.setTop (mkF m 0 #[.val (.int (10 : Int32)), .val (.int (1 : Int32)), .val (.int (5 : Int32)), .unset] []))
  refine Gl.st (fun _ k => XS.iloadN X0.here hx rfl (hb hby d60_0) rfl k) ?_
  show Gl p e below P (s₁.setTop (mkF m 1 #[.val (.int (10 : Int32)), .val (.int (1 : Int32)), .val (.int (5 : Int32)), .unset] [(.int (10 : Int32))]))
  refine Gl.st (fun _ k => XS.iloadN X0.here hx rfl (hb hby d60_1) rfl k) ?_
  show Gl p e below P (s₁.setTop (mkF m 2 #[.val (.int (10 : Int32)), .val (.int (1 : Int32)), .val (.int (5 : Int32)), .unset] [(.int (1 : Int32)), (.int (10 : Int32))]))
  refine Gl.st (fun _ k => XS.iloadN X0.here hx rfl (hb hby d60_2) rfl k) ?_
  show Gl p e below P (s₁.setTop (mkF m 3 #[.val (.int (10 : Int32)), .val (.int (1 : Int32)), .val (.int (5 : Int32)), .unset] [(.int (5 : Int32)), (.int (1 : Int32)), (.int (10 : Int32))]))
  obtain ⟨_, _, ⟨T1, L1, k1, n1⟩, -, X1, ⟨Lc1, hQ1, l1, y1, z1⟩, st1⟩ := Jvm.LawKit.callS X0 hx (y := (⟨"java/lang/Math", "max", "(II)I"⟩ : MethodName)) hown (mvT hZ (hw _ (List.mem_of_getElem? (i := 154) rfl))) (mvT hZ (hw _ (List.mem_of_getElem? (i := 91) rfl))) (mvT hZ (hw _ (List.mem_of_getElem? (i := 92) rfl))) (mvT hZ (hw _ (List.mem_of_getElem? (i := 93) rfl))) (by decide) (backOf (W := 1) (rm52 l Z a0 hw [] (1 : Int32) (5 : Int32) (5 : Int32) h0 n0 Z0 (Or.inl ⟨by decide, rfl⟩)) hZ (hw _ (List.mem_of_getElem? (i := 93) rfl)) (hw _ (List.mem_of_getElem? (i := 92) rfl)) (by decide) (by decide)) (g := (mkF m 3 #[.val (.int (10 : Int32)), .val (.int (1 : Int32)), .val (.int (5 : Int32)), .unset] [(.int (5 : Int32)), (.int (1 : Int32)), (.int (10 : Int32))])) rfl (by rw [hml]; rfl) (argsL := [(.int (1 : Int32)), (.int (5 : Int32))]) (rest := [(.int (10 : Int32))]) (lenOf pd_2 rfl) rfl (by show 2 * 0 + _ ≤ _; exact Nat.le_of_eq rfl) (hb hby d60_3) (fun _ _ => ⟨rfl, e0, (by decide : 0 + 0 ≤ _), (by decide : 0 + 0 ≤ _)⟩)
  dsimp only [Pt.U, Pt.locs, Pt.cells, Pt.slots] at X1 l1 y1 z1 st1 hQ1
  subst l1 y1 z1
  obtain ⟨rfl, N1q, e1⟩ := hQ1
  have N1 := Fr.app N0 N1q
  refine Gl.st st1 ?_
  show Gl p e below P (T1.setTop (mkF m 6 #[.val (.int (10 : Int32)), .val (.int (1 : Int32)), .val (.int (5 : Int32)), .unset] [(.int (5 : Int32)), (.int (10 : Int32))]))
  refine Gl.st (fun _ k => XS.iadd X1.here hx rfl (hb hby d60_6) rfl k) ?_
  show Gl p e below P (T1.setTop (mkF m 7 #[.val (.int (10 : Int32)), .val (.int (1 : Int32)), .val (.int (5 : Int32)), .unset] [(.int ((10 : Int32) + (5 : Int32)))]))
  rw [show ((10 : Int32) + (5 : Int32)) = (15 : Int32) from by decide]
  show Gl p e below P (T1.setTop (mkF m 7 #[.val (.int (10 : Int32)), .val (.int (1 : Int32)), .val (.int (5 : Int32)), .unset] [(.int (15 : Int32))]))
  refine Gl.st (fun _ k => XS.istoreN X1.here hx rfl (hb hby d60_7) rfl (l' := #[.val (.int (10 : Int32)), .val (.int (1 : Int32)), .val (.int (5 : Int32)), .val (.int (15 : Int32))]) rfl k) ?_
  show Gl p e below P (T1.setTop (mkF m 8 #[.val (.int (10 : Int32)), .val (.int (1 : Int32)), .val (.int (5 : Int32)), .val (.int (15 : Int32))] []))
  refine Gl.st (fun _ k => XS.iconst X1.here hx rfl (hb hby d60_8) k) ?_
  show Gl p e below P (T1.setTop (mkF m 9 #[.val (.int (10 : Int32)), .val (.int (1 : Int32)), .val (.int (5 : Int32)), .val (.int (15 : Int32))] [(.int (0 : Int32))]))
  refine Gl.st (fun _ k => XS.iloadN X1.here hx rfl (hb hby d60_9) rfl k) ?_
  show Gl p e below P (T1.setTop (mkF m 10 #[.val (.int (10 : Int32)), .val (.int (1 : Int32)), .val (.int (5 : Int32)), .val (.int (15 : Int32))] [(.int (15 : Int32)), (.int (0 : Int32))]))
  refine Gl.st (fun _ k => XS.icmpNo X1.here hx rfl (hb hby d60_10) rfl (tlt (by decide : (0 : Int32) < (15 : Int32))).2.1 k) ?_
  show Gl p e below P (T1.setTop (mkF m 13 #[.val (.int (10 : Int32)), .val (.int (1 : Int32)), .val (.int (5 : Int32)), .val (.int (15 : Int32))] []))
  refine Gl.st (fun _ k => XS.iloadN X1.here hx rfl (hb hby d60_13) rfl k) ?_
  show Gl p e below P (T1.setTop (mkF m 14 #[.val (.int (10 : Int32)), .val (.int (1 : Int32)), .val (.int (5 : Int32)), .val (.int (15 : Int32))] [(.int (15 : Int32))]))
  refine Gl.st (X1.ldcInt hx hown (mvT hZ (hw _ (List.mem_of_getElem? (i := 155) rfl))) (g := (mkF m 14 #[.val (.int (10 : Int32)), .val (.int (1 : Int32)), .val (.int (5 : Int32)), .val (.int (15 : Int32))] [(.int (15 : Int32))])) rfl (hb hby d60_14)) ?_
  show Gl p e below P (T1.setTop (mkF m 16 #[.val (.int (10 : Int32)), .val (.int (1 : Int32)), .val (.int (5 : Int32)), .val (.int (15 : Int32))] [(.int (2147483639 : Int32)), (.int (15 : Int32))]))
  refine Gl.st (fun _ k => XS.icmpNo X1.here hx rfl (hb hby d60_16) rfl (flt (by decide : ¬ ((2147483639 : Int32) < (15 : Int32)))).2.2.1 k) ?_
  show Gl p e below P (T1.setTop (mkF m 19 #[.val (.int (10 : Int32)), .val (.int (1 : Int32)), .val (.int (5 : Int32)), .val (.int (15 : Int32))] []))
  refine Gl.st (fun _ k => XS.iloadN X1.here hx rfl (hb hby d60_19) rfl k) ?_
  show Gl p e below P (T1.setTop (mkF m 20 #[.val (.int (10 : Int32)), .val (.int (1 : Int32)), .val (.int (5 : Int32)), .val (.int (15 : Int32))] [(.int (15 : Int32))]))
  obtain ⟨fs, hr, hrun, hended, hW, hsame⟩ := X1.leave (v := some (.int (15 : Int32))) (fun h => by rw [Bd.returns] at h; cases h)
  refine ⟨_, _, retOut X1 hx Bd.returns rfl (Or.inl ⟨rfl, Or.inl rfl, _, rfl⟩) (hb hby d60_20) hr, hrun, hended, hPost _ _ ⟨_, _, rfl, ?_, ⟨_, rfl⟩, hW, hsame.mono (by decide) (by decide)⟩⟩
  show Q610 Z x9 h0 n0 _ T1.heap _
  rw [e1]
  exact ⟨rfl, N1, rfl⟩
theorem pn_615 : plainName "jdk/internal/util/ArraysSupport" = true := by first | (simp [plainName, overriddenIn]; done) | decide +kernel
theorem ef_615 (m : MethodId) (x0 : Int32) (x1 : Int32) (x2 : Int32) : entryFrame m #[(.int x0), (.int x1), (.int x2)] 4 = mkF m 0 #[.val (.int x0), .val (.int x1), .val (.int x2), .unset] [] := by first | (simp [entryFrame, mkF, argsToLocals, Value.category]; done) | rfl
def Q615 (Z : State) (x9 : Nat) (h0 : Heap) (n0 : Nat) (v : Option Value) (h : Heap) (L : List Loc) : Prop := v = some (.int (22 : Int32)) ∧ Fr n0 L ∧ h = h0
set_option maxRecDepth 65536 in
set_option maxHeartbeats 40000000 in
theorem rm615 (l : Launch) (Z : State) (a0 : Array Value) (hw : ∀ d ∈ tables_1, d.before a0 Z = true) (ws : List Jvm.Cond) (x9 : Nat) (h0 : Heap) (n0 : Nat) (Z0 : n0 ≤ h0.size)  :
    MetFree l (⟨"jdk/internal/util/ArraysSupport", "newLength", "(III)I"⟩ : MethodName) (head1 (Jvm.Cond.code (⟨"jdk/internal/util/ArraysSupport", "newLength", "(III)I"⟩ : MethodName) jdk_48_method_27_code 4 (some .int) :: ws) ({ frames := 1, cells := 0, slots := 0, locals := 16 } : Room)) (fun a U => a = #[(.int (15 : Int32)), (.int (1 : Int32)), (.int (7 : Int32))] ∧ Z.Warmed39 U.vm ∧ U.heap = h0) (fun _ _ _ _ _ => True) (fun _ U o U' => ∃ v L, o = .returned v ∧ Q615 Z x9 h0 n0 v U'.heap L ∧ FrameEnd U o U' L ({ frames := 1, cells := 0, slots := 0, locals := 16 } : Room).cells ({ frames := 1, cells := 0, slots := 0, locals := 16 } : Room).slots) := by
  refine MetFree.of_bodySF (plainFor_of_name pn_615) hisR ?_
  intro p e s m args below meth c s₁ Bd hml0 hP hK
  obtain ⟨rfl, hZ, hh⟩ := hP
  have hx := Bd.exec
  have hby := Bd.bytes
  have hml : c.maxLocals = 4 := hml0
  have hown : s.vm.findClass "jdk/internal/util/ArraysSupport" = some m.cls := findClass_of_methodNamed Bd.named
  have hnm := (name_of_methodNamed Bd.named Bd.method).1
  have X0 : Stand p l e ({ frames := 1, cells := 0, slots := 0, locals := 16 } : Room) s m #[(.int (15 : Int32)), (.int (1 : Int32)), (.int (7 : Int32))] below meth c s₁ [] 0 0 := Stand.of_body Bd
  have e0 : s₁.heap = h0 := by rw [← hh, Bd.state]; rfl
  have N0 := Fr.nil n0
  refine Gl.gen fun P hPost => ?_
  refine Gl.st (fun _ k => castTop (ef_615 m (15 : Int32) (1 : Int32) (7 : Int32) ) k) ?_
  show Gl p e below P (s₁.setTop (mkF m 0 #[.val (.int (15 : Int32)), .val (.int (1 : Int32)), .val (.int (7 : Int32)), .unset] []))
  refine Gl.st (fun _ k => XS.iloadN X0.here hx rfl (hb hby d60_0) rfl k) ?_
  show Gl p e below P (s₁.setTop (mkF m 1 #[.val (.int (15 : Int32)), .val (.int (1 : Int32)), .val (.int (7 : Int32)), .unset] [(.int (15 : Int32))]))
  refine Gl.st (fun _ k => XS.iloadN X0.here hx rfl (hb hby d60_1) rfl k) ?_
  show Gl p e below P (s₁.setTop (mkF m 2 #[.val (.int (15 : Int32)), .val (.int (1 : Int32)), .val (.int (7 : Int32)), .unset] [(.int (1 : Int32)), (.int (15 : Int32))]))
  refine Gl.st (fun _ k => XS.iloadN X0.here hx rfl (hb hby d60_2) rfl k) ?_
  show Gl p e below P (s₁.setTop (mkF m 3 #[.val (.int (15 : Int32)), .val (.int (1 : Int32)), .val (.int (7 : Int32)), .unset] [(.int (7 : Int32)), (.int (1 : Int32)), (.int (15 : Int32))]))
  obtain ⟨_, _, ⟨T1, L1, k1, n1⟩, -, X1, ⟨Lc1, hQ1, l1, y1, z1⟩, st1⟩ := Jvm.LawKit.callS X0 hx (y := (⟨"java/lang/Math", "max", "(II)I"⟩ : MethodName)) hown (mvT hZ (hw _ (List.mem_of_getElem? (i := 154) rfl))) (mvT hZ (hw _ (List.mem_of_getElem? (i := 91) rfl))) (mvT hZ (hw _ (List.mem_of_getElem? (i := 92) rfl))) (mvT hZ (hw _ (List.mem_of_getElem? (i := 93) rfl))) (by decide) (backOf (W := 1) (rm52 l Z a0 hw [] (1 : Int32) (7 : Int32) (7 : Int32) h0 n0 Z0 (Or.inl ⟨by decide, rfl⟩)) hZ (hw _ (List.mem_of_getElem? (i := 93) rfl)) (hw _ (List.mem_of_getElem? (i := 92) rfl)) (by decide) (by decide)) (g := (mkF m 3 #[.val (.int (15 : Int32)), .val (.int (1 : Int32)), .val (.int (7 : Int32)), .unset] [(.int (7 : Int32)), (.int (1 : Int32)), (.int (15 : Int32))])) rfl (by rw [hml]; rfl) (argsL := [(.int (1 : Int32)), (.int (7 : Int32))]) (rest := [(.int (15 : Int32))]) (lenOf pd_2 rfl) rfl (by show 2 * 0 + _ ≤ _; exact Nat.le_of_eq rfl) (hb hby d60_3) (fun _ _ => ⟨rfl, e0, (by decide : 0 + 0 ≤ _), (by decide : 0 + 0 ≤ _)⟩)
  dsimp only [Pt.U, Pt.locs, Pt.cells, Pt.slots] at X1 l1 y1 z1 st1 hQ1
  subst l1 y1 z1
  obtain ⟨rfl, N1q, e1⟩ := hQ1
  have N1 := Fr.app N0 N1q
  refine Gl.st st1 ?_
  show Gl p e below P (T1.setTop (mkF m 6 #[.val (.int (15 : Int32)), .val (.int (1 : Int32)), .val (.int (7 : Int32)), .unset] [(.int (7 : Int32)), (.int (15 : Int32))]))
  refine Gl.st (fun _ k => XS.iadd X1.here hx rfl (hb hby d60_6) rfl k) ?_
  show Gl p e below P (T1.setTop (mkF m 7 #[.val (.int (15 : Int32)), .val (.int (1 : Int32)), .val (.int (7 : Int32)), .unset] [(.int ((15 : Int32) + (7 : Int32)))]))
  rw [show ((15 : Int32) + (7 : Int32)) = (22 : Int32) from by decide]
  show Gl p e below P (T1.setTop (mkF m 7 #[.val (.int (15 : Int32)), .val (.int (1 : Int32)), .val (.int (7 : Int32)), .unset] [(.int (22 : Int32))]))
  refine Gl.st (fun _ k => XS.istoreN X1.here hx rfl (hb hby d60_7) rfl (l' := #[.val (.int (15 : Int32)), .val (.int (1 : Int32)), .val (.int (7 : Int32)), .val (.int (22 : Int32))]) rfl k) ?_
  show Gl p e below P (T1.setTop (mkF m 8 #[.val (.int (15 : Int32)), .val (.int (1 : Int32)), .val (.int (7 : Int32)), .val (.int (22 : Int32))] []))
  refine Gl.st (fun _ k => XS.iconst X1.here hx rfl (hb hby d60_8) k) ?_
  show Gl p e below P (T1.setTop (mkF m 9 #[.val (.int (15 : Int32)), .val (.int (1 : Int32)), .val (.int (7 : Int32)), .val (.int (22 : Int32))] [(.int (0 : Int32))]))
  refine Gl.st (fun _ k => XS.iloadN X1.here hx rfl (hb hby d60_9) rfl k) ?_
  show Gl p e below P (T1.setTop (mkF m 10 #[.val (.int (15 : Int32)), .val (.int (1 : Int32)), .val (.int (7 : Int32)), .val (.int (22 : Int32))] [(.int (22 : Int32)), (.int (0 : Int32))]))
  refine Gl.st (fun _ k => XS.icmpNo X1.here hx rfl (hb hby d60_10) rfl (tlt (by decide : (0 : Int32) < (22 : Int32))).2.1 k) ?_
  show Gl p e below P (T1.setTop (mkF m 13 #[.val (.int (15 : Int32)), .val (.int (1 : Int32)), .val (.int (7 : Int32)), .val (.int (22 : Int32))] []))
  refine Gl.st (fun _ k => XS.iloadN X1.here hx rfl (hb hby d60_13) rfl k) ?_
  show Gl p e below P (T1.setTop (mkF m 14 #[.val (.int (15 : Int32)), .val (.int (1 : Int32)), .val (.int (7 : Int32)), .val (.int (22 : Int32))] [(.int (22 : Int32))]))
  refine Gl.st (X1.ldcInt hx hown (mvT hZ (hw _ (List.mem_of_getElem? (i := 155) rfl))) (g := (mkF m 14 #[.val (.int (15 : Int32)), .val (.int (1 : Int32)), .val (.int (7 : Int32)), .val (.int (22 : Int32))] [(.int (22 : Int32))])) rfl (hb hby d60_14)) ?_
  show Gl p e below P (T1.setTop (mkF m 16 #[.val (.int (15 : Int32)), .val (.int (1 : Int32)), .val (.int (7 : Int32)), .val (.int (22 : Int32))] [(.int (2147483639 : Int32)), (.int (22 : Int32))]))
  refine Gl.st (fun _ k => XS.icmpNo X1.here hx rfl (hb hby d60_16) rfl (flt (by decide : ¬ ((2147483639 : Int32) < (22 : Int32)))).2.2.1 k) ?_
  show Gl p e below P (T1.setTop (mkF m 19 #[.val (.int (15 : Int32)), .val (.int (1 : Int32)), .val (.int (7 : Int32)), .val (.int (22 : Int32))] []))
  refine Gl.st (fun _ k => XS.iloadN X1.here hx rfl (hb hby d60_19) rfl k) ?_
  show Gl p e below P (T1.setTop (mkF m 20 #[.val (.int (15 : Int32)), .val (.int (1 : Int32)), .val (.int (7 : Int32)), .val (.int (22 : Int32))] [(.int (22 : Int32))]))
  obtain ⟨fs, hr, hrun, hended, hW, hsame⟩ := X1.leave (v := some (.int (22 : Int32))) (fun h => by rw [Bd.returns] at h; cases h)
  refine ⟨_, _, retOut X1 hx Bd.returns rfl (Or.inl ⟨rfl, Or.inl rfl, _, rfl⟩) (hb hby d60_20) hr, hrun, hended, hPost _ _ ⟨_, _, rfl, ?_, ⟨_, rfl⟩, hW, hsame.mono (by decide) (by decide)⟩⟩
  show Q615 Z x9 h0 n0 _ T1.heap _
  rw [e1]
  exact ⟨rfl, N1, rfl⟩
theorem pn_620 : plainName "java/util/Arrays" = true := by first | (simp [plainName, overriddenIn]; done) | decide +kernel
theorem ef_620 (m : MethodId) (x0 : Addr) (x1 : Int32) (x2 : Addr) : entryFrame m #[(.ref x0), (.int x1), (.ref x2)] 4 = mkF m 0 #[.val (.ref x0), .val (.int x1), .val (.ref x2), .unset] [] := by first | (simp [entryFrame, mkF, argsToLocals, Value.category]; done) | rfl
def Q620 (Z : State) (ed : Addr) (ke : ClassId) (vs : List Value) (mir : Addr) (h0 : Heap) (n0 : Nat) (v : Option Value) (h : Heap) (L : List Loc) : Prop := ∃ ed2 ke2 vs2, v = some (.ref ed2) ∧ Fr n0 L ∧ Keep h0 h [] ∧ Exa Z h ed2 "[Ljava/lang/Object;" ∧ Arv Z h ed2 ke2 (.object "java/lang/Object") (15 : Int32) vs2 .null ∧ own_El Z h vs2 ∧ vs2.length = 15 ∧ Ovr Z ke2 "java/lang/Object" ∧ h0.size ≤ ed2
set_option maxRecDepth 65536 in
set_option maxHeartbeats 40000000 in
theorem rm620 (l : Launch) (Z : State) (a0 : Array Value) (hw : ∀ d ∈ tables_1, d.before a0 Z = true) (ws : List Jvm.Cond) (ed : Addr) (ke : ClassId) (vs : List Value) (mir : Addr) (h0 : Heap) (n0 : Nat) (Z0 : n0 ≤ h0.size) (VE : Arv Z h0 ed ke (.object "java/lang/Object") (10 : Int32) vs .null) (EE : Exa Z h0 ed "[Ljava/lang/Object;") (LE : own_El Z h0 vs) (MI : Mir Z "[Ljava/lang/Object;" mir) :
    MetFree l (⟨"java/util/Arrays", "copyOf", "([Ljava/lang/Object;ILjava/lang/Class;)[Ljava/lang/Object;"⟩ : MethodName) (head1 (Jvm.Cond.code (⟨"java/util/Arrays", "copyOf", "([Ljava/lang/Object;ILjava/lang/Class;)[Ljava/lang/Object;"⟩ : MethodName) jdk_65_method_120_code 4 (some (.array (.object "java/lang/Object"))) :: ws) ({ frames := 1, cells := 1, slots := 15, locals := 60 } : Room)) (fun a U => a = #[(.ref ed), (.int (15 : Int32)), (.ref mir)] ∧ Z.Warmed39 U.vm ∧ U.heap = h0) (fun _ _ _ _ _ => True) (fun _ U o U' => ∃ v L, o = .returned v ∧ Q620 Z ed ke vs mir h0 n0 v U'.heap L ∧ FrameEnd U o U' L ({ frames := 1, cells := 1, slots := 15, locals := 60 } : Room).cells ({ frames := 1, cells := 1, slots := 15, locals := 60 } : Room).slots) := by
  refine MetFree.of_bodySF (plainFor_of_name pn_620) hisR ?_
  intro p e s m args below meth c s₁ Bd hml0 hP hK
  obtain ⟨rfl, hZ, hh⟩ := hP
  have hx := Bd.exec
  have hby := Bd.bytes
  have hml : c.maxLocals = 4 := hml0
  have hown : s.vm.findClass "java/util/Arrays" = some m.cls := findClass_of_methodNamed Bd.named
  have hnm := (name_of_methodNamed Bd.named Bd.method).1
  have X0 : Stand p l e ({ frames := 1, cells := 1, slots := 15, locals := 60 } : Room) s m #[(.ref ed), (.int (15 : Int32)), (.ref mir)] below meth c s₁ [] 0 0 := Stand.of_body Bd
  have e0 : s₁.heap = h0 := by rw [← hh, Bd.state]; rfl
  have N0 := Fr.nil n0
  refine Gl.gen fun P hPost => ?_
  refine Gl.st (fun _ k => castTop (ef_620 m ed (15 : Int32) mir ) k) ?_
  show Gl p e below P (s₁.setTop (mkF m 0 #[.val (.ref ed), .val (.int (15 : Int32)), .val (.ref mir), .unset] []))
  refine Gl.st (fun _ k => XS.aloadN X0.here hx rfl (hb hby d61_0) rfl rfl k) ?_
  show Gl p e below P (s₁.setTop (mkF m 1 #[.val (.ref ed), .val (.int (15 : Int32)), .val (.ref mir), .unset] [(.ref mir)]))
  obtain ⟨T1, X1, e1, st1⟩ := own_ldcM X0 hx hZ hown (hw _ (List.mem_of_getElem? (i := 169) rfl)) e0 MI (g := (mkF m 1 #[.val (.ref ed), .val (.int (15 : Int32)), .val (.ref mir), .unset] [(.ref mir)])) rfl (hb hby d61_1)
  refine Gl.st st1 ?_
  show Gl p e below P (T1.setTop (mkF m 3 #[.val (.ref ed), .val (.int (15 : Int32)), .val (.ref mir), .unset] [(.ref mir), (.ref mir)]))
  refine Gl.st (fun _ k => Jvm.RoadKit.acmp (g := (mkF m 3 #[.val (.ref ed), .val (.int (15 : Int32)), .val (.ref mir), .unset] [(.ref mir), (.ref mir)])) X1 hx rfl rfl rfl (pc0 := 3) (pc' := 6) (same := true) rfl (hb hby d61_3) rfl (decide_eq_true rfl) (by decide) (by decide) k) ?_
  show Gl p e below P (T1.setTop (mkF m 6 #[.val (.ref ed), .val (.int (15 : Int32)), .val (.ref mir), .unset] []))
  refine Gl.st (fun _ k => XS.iloadN X1.here hx rfl (hb hby d61_6) rfl k) ?_
  show Gl p e below P (T1.setTop (mkF m 7 #[.val (.ref ed), .val (.int (15 : Int32)), .val (.ref mir), .unset] [(.int (15 : Int32))]))
  obtain ⟨T2, h2, k2, X2, e2, E2, A2, O2, Z2x, st2⟩ := own_newR X1 hx hZ hown (hw _ (List.mem_of_getElem? (i := 170) rfl)) (hw _ (List.mem_of_getElem? (i := 95) rfl)) e1 (g := (mkF m 7 #[.val (.ref ed), .val (.int (15 : Int32)), .val (.ref mir), .unset] [(.int (15 : Int32))])) rfl (hb hby d61_7) rfl (by decide) (cap := 15) (by decide) (by decide) (by decide) (by decide)
  obtain ⟨b2, g2⟩ : ∃ z, z = h0.size := ⟨_, rfl⟩
  rw [← g2] at A2 st2 Z2x
  refine Gl.st st2 ?_
  have g_b2 : n0 ≤ b2 := Nat.le_trans Z0 (Nat.le_of_eq g2.symm)
  have sz_b2 : h0.size ≤ b2 := Nat.le_trans (Keep.refl h0 []).1 (Nat.le_of_eq g2.symm)
  have ne_ed_b2 : ed ≠ b2 := Nat.ne_of_lt (Nat.lt_of_lt_of_le VE.lt (Nat.le_of_eq g2.symm))
  have Z0_v2 : n0 ≤ h2.size := Nat.le_trans Z0 E2.1
  have VE_v2 : Arv Z h2 ed ke (.object "java/lang/Object") (10 : Int32) vs .null := VE.ext E2
  have EE_v2 : Exa Z h2 ed "[Ljava/lang/Object;" := EE.ext E2
  have LE_v2 : own_El Z h2 vs := own_El_ext E2 LE
  have f_K_v2 : Keep h0 h2 [] := (Keep.refl h0 []).ext E2
  have V_b2 : Arv Z h2 b2 k2 (.object "java/lang/Object") (15 : Int32) (List.replicate 15 .null) .null := (Arv.new A2 (by decide)).pad (pad_rep [] .null 15)
  show Gl p e below P (T2.setTop (mkF m 10 #[.val (.ref ed), .val (.int (15 : Int32)), .val (.ref mir), .unset] [(.ref b2)]))
  refine Gl.st (fun _ k => XS.goto X2.here hx rfl (pc0 := 10) (pc' := 24) rfl (hb hby d61_10) (by decide) (by decide) k) ?_
  show Gl p e below P (T2.setTop (mkF m 24 #[.val (.ref ed), .val (.int (15 : Int32)), .val (.ref mir), .unset] [(.ref b2)]))
  refine Gl.st (fun _ k => XS.astoreN X2.here hx rfl (hb hby d61_24) rfl rfl (l' := #[.val (.ref ed), .val (.int (15 : Int32)), .val (.ref mir), .val (.ref b2)]) rfl k) ?_
  show Gl p e below P (T2.setTop (mkF m 25 #[.val (.ref ed), .val (.int (15 : Int32)), .val (.ref mir), .val (.ref b2)] []))
  refine Gl.st (fun _ k => XS.aloadN X2.here hx rfl (hb hby d61_25) rfl rfl k) ?_
  show Gl p e below P (T2.setTop (mkF m 26 #[.val (.ref ed), .val (.int (15 : Int32)), .val (.ref mir), .val (.ref b2)] [(.ref ed)]))
  refine Gl.st (fun _ k => XS.iconst X2.here hx rfl (hb hby d61_26) k) ?_
  show Gl p e below P (T2.setTop (mkF m 27 #[.val (.ref ed), .val (.int (15 : Int32)), .val (.ref mir), .val (.ref b2)] [(.int (0 : Int32)), (.ref ed)]))
  refine Gl.st (fun _ k => XS.aloadN X2.here hx rfl (hb hby d61_27) rfl rfl k) ?_
  show Gl p e below P (T2.setTop (mkF m 28 #[.val (.ref ed), .val (.int (15 : Int32)), .val (.ref mir), .val (.ref b2)] [(.ref b2), (.int (0 : Int32)), (.ref ed)]))
  refine Gl.st (fun _ k => XS.iconst X2.here hx rfl (hb hby d61_28) k) ?_
  show Gl p e below P (T2.setTop (mkF m 29 #[.val (.ref ed), .val (.int (15 : Int32)), .val (.ref mir), .val (.ref b2)] [(.int (0 : Int32)), (.ref b2), (.int (0 : Int32)), (.ref ed)]))
  refine Gl.st (fun _ k => XS.aloadN X2.here hx rfl (hb hby d61_29) rfl rfl k) ?_
  show Gl p e below P (T2.setTop (mkF m 30 #[.val (.ref ed), .val (.int (15 : Int32)), .val (.ref mir), .val (.ref b2)] [(.ref ed), (.int (0 : Int32)), (.ref b2), (.int (0 : Int32)), (.ref ed)]))
  obtain ⟨c3, Ar3, q3, S3, M3, H3, U3⟩ := id VE_v2
  refine Gl.st (X2.arraylength hx (by rw [e2]; exact Ar3.1) (State.isArrayOf_alike hZ.alike Ar3.2.1) (g := (mkF m 30 #[.val (.ref ed), .val (.int (15 : Int32)), .val (.ref mir), .val (.ref b2)] [(.ref ed), (.int (0 : Int32)), (.ref b2), (.int (0 : Int32)), (.ref ed)])) rfl rfl (hb hby d61_30)) ?_
  rw [len_of S3 M3]
  show Gl p e below P (T2.setTop (mkF m 31 #[.val (.ref ed), .val (.int (15 : Int32)), .val (.ref mir), .val (.ref b2)] [(.int (10 : Int32)), (.int (0 : Int32)), (.ref b2), (.int (0 : Int32)), (.ref ed)]))
  refine Gl.st (fun _ k => XS.iloadN X2.here hx rfl (hb hby d61_31) rfl k) ?_
  show Gl p e below P (T2.setTop (mkF m 32 #[.val (.ref ed), .val (.int (15 : Int32)), .val (.ref mir), .val (.ref b2)] [(.int (15 : Int32)), (.int (10 : Int32)), (.int (0 : Int32)), (.ref b2), (.int (0 : Int32)), (.ref ed)]))
  obtain ⟨_, _, ⟨T4, L4, k4, n4⟩, -, X4, ⟨Lc4, hQ4, l4, y4, z4⟩, st4⟩ := Jvm.LawKit.callS X2 hx (y := (⟨"java/lang/Math", "min", "(II)I"⟩ : MethodName)) hown (mvT hZ (hw _ (List.mem_of_getElem? (i := 171) rfl))) (mvT hZ (hw _ (List.mem_of_getElem? (i := 98) rfl))) (mvT hZ (hw _ (List.mem_of_getElem? (i := 92) rfl))) (mvT hZ (hw _ (List.mem_of_getElem? (i := 99) rfl))) (by decide) (backOf (W := 4) (rm51 l Z a0 hw [] (10 : Int32) (15 : Int32) (10 : Int32) h2 n0 Z0_v2 (Or.inr ⟨by decide, rfl⟩)) hZ (hw _ (List.mem_of_getElem? (i := 99) rfl)) (hw _ (List.mem_of_getElem? (i := 92) rfl)) (by decide) (by decide)) (g := (mkF m 32 #[.val (.ref ed), .val (.int (15 : Int32)), .val (.ref mir), .val (.ref b2)] [(.int (15 : Int32)), (.int (10 : Int32)), (.int (0 : Int32)), (.ref b2), (.int (0 : Int32)), (.ref ed)])) rfl (by rw [hml]; rfl) (argsL := [(.int (10 : Int32)), (.int (15 : Int32))]) (rest := [(.int (0 : Int32)), (.ref b2), (.int (0 : Int32)), (.ref ed)]) (lenOf pd_2 rfl) rfl (by show 2 * 0 + _ ≤ _; exact Nat.le_of_eq rfl) (hb hby d61_32) (fun _ _ => ⟨rfl, e2, (by decide : 1 + 0 ≤ _), (by decide : 15 + 0 ≤ _)⟩)
  dsimp only [Pt.U, Pt.locs, Pt.cells, Pt.slots] at X4 l4 y4 z4 st4 hQ4
  subst l4 y4 z4
  obtain ⟨rfl, N4q, e4⟩ := hQ4
  have N4 := Fr.app N0 N4q
  refine Gl.st st4 ?_
  show Gl p e below P (T4.setTop (mkF m 35 #[.val (.ref ed), .val (.int (15 : Int32)), .val (.ref mir), .val (.ref b2)] [(.int (10 : Int32)), (.int (0 : Int32)), (.ref b2), (.int (0 : Int32)), (.ref ed)]))
  obtain ⟨T5, h5, L5, X5, e5, N5, K5, VC5, st5⟩ := cpA X4 hx hZ hown (hw _ (List.mem_of_getElem? (i := 172) rfl)) (hw _ (List.mem_of_getElem? (i := 124) rfl)) (hw _ (List.mem_of_getElem? (i := 122) rfl)) (hw _ (List.mem_of_getElem? (i := 123) rfl)) e4 VE_v2 V_b2 (Or.inr ⟨rfl, rfl, own_StoL V_b2 O2 _ (own_El_map LE_v2 10 0)⟩) (by decide) (by decide) (by decide) (by decide) (by decide) rfl (by decide) N4 g_b2 (g := (mkF m 35 #[.val (.ref ed), .val (.int (15 : Int32)), .val (.ref mir), .val (.ref b2)] [(.int (10 : Int32)), (.int (0 : Int32)), (.ref b2), (.int (0 : Int32)), (.ref ed)])) rfl (by rw [hml]; rfl) rfl (hb hby d61_35) (by decide) (W := 0) (by show 2 * 0 + _ ≤ _; exact Nat.le_of_eq rfl) (by decide)
  refine Gl.st st5 ?_
  have Z0_v5 : n0 ≤ h5.size := Nat.le_trans Z0_v2 K5.1
  have VE_v5 : Arv Z h5 ed ke (.object "java/lang/Object") (10 : Int32) vs .null := VE_v2.keep K5 (ninS ne_ed_b2 nin0)
  have EE_v5 : Exa Z h5 ed "[Ljava/lang/Object;" := EE_v2.keep K5
  have LE_v5 : own_El Z h5 vs := own_El_keep K5 LE_v2
  have f_K_v5 : Keep h0 h5 [] := f_K_v2.trans K5 (allS (Or.inr sz_b2) all0)
  have Z2x_v5 : Exa Z h5 b2 "[Ljava/lang/Object;" := Z2x.keep K5
  show Gl p e below P (T5.setTop (mkF m 38 #[.val (.ref ed), .val (.int (15 : Int32)), .val (.ref mir), .val (.ref b2)] []))
  refine Gl.st (fun _ k => XS.aloadN X5.here hx rfl (hb hby d61_38) rfl rfl k) ?_
  show Gl p e below P (T5.setTop (mkF m 39 #[.val (.ref ed), .val (.int (15 : Int32)), .val (.ref mir), .val (.ref b2)] [(.ref b2)]))
  obtain ⟨fs, hr, hrun, hended, hW, hsame⟩ := X5.leave (v := some (.ref b2)) (fun h => by rw [Bd.returns] at h; cases h)
  refine ⟨_, _, retOut X5 hx Bd.returns rfl (Or.inr (Or.inr (Or.inr (Or.inr ⟨rfl, rfl, rfl⟩)))) (hb hby d61_39) hr, hrun, hended, hPost _ _ ⟨_, _, rfl, ?_, ⟨_, rfl⟩, hW, hsame.mono (by decide) (by decide)⟩⟩
  show Q620 Z ed ke vs mir h0 n0 _ T5.heap _
  rw [e5]
  exact ⟨_, k2, _, rfl, N5, f_K_v5, Z2x_v5, VC5, own_El_app (own_El_app (fun _ q => nomatch q) (own_El_map LE_v5 10 0)) (own_El_drop (own_El_rep 15) _), by simp [show ((10 : Int32)).toNatClampNeg = 10 from by decide, show ((0 : Int32)).toNatClampNeg = 0 from by decide], O2, sz_b2⟩
theorem pn_625 : plainName "java/util/Arrays" = true := by first | (simp [plainName, overriddenIn]; done) | decide +kernel
theorem ef_625 (m : MethodId) (x0 : Addr) (x1 : Int32) (x2 : Addr) : entryFrame m #[(.ref x0), (.int x1), (.ref x2)] 4 = mkF m 0 #[.val (.ref x0), .val (.int x1), .val (.ref x2), .unset] [] := by first | (simp [entryFrame, mkF, argsToLocals, Value.category]; done) | rfl
def Q625 (Z : State) (ed : Addr) (ke : ClassId) (vs : List Value) (mir : Addr) (h0 : Heap) (n0 : Nat) (v : Option Value) (h : Heap) (L : List Loc) : Prop := ∃ ed2 ke2 vs2, v = some (.ref ed2) ∧ Fr n0 L ∧ Keep h0 h [] ∧ Exa Z h ed2 "[Ljava/lang/Object;" ∧ Arv Z h ed2 ke2 (.object "java/lang/Object") (22 : Int32) vs2 .null ∧ own_El Z h vs2 ∧ vs2.length = 22 ∧ Ovr Z ke2 "java/lang/Object" ∧ h0.size ≤ ed2
set_option maxRecDepth 65536 in
set_option maxHeartbeats 40000000 in
theorem rm625 (l : Launch) (Z : State) (a0 : Array Value) (hw : ∀ d ∈ tables_1, d.before a0 Z = true) (ws : List Jvm.Cond) (ed : Addr) (ke : ClassId) (vs : List Value) (mir : Addr) (h0 : Heap) (n0 : Nat) (Z0 : n0 ≤ h0.size) (VE : Arv Z h0 ed ke (.object "java/lang/Object") (15 : Int32) vs .null) (EE : Exa Z h0 ed "[Ljava/lang/Object;") (LE : own_El Z h0 vs) (MI : Mir Z "[Ljava/lang/Object;" mir) :
    MetFree l (⟨"java/util/Arrays", "copyOf", "([Ljava/lang/Object;ILjava/lang/Class;)[Ljava/lang/Object;"⟩ : MethodName) (head1 (Jvm.Cond.code (⟨"java/util/Arrays", "copyOf", "([Ljava/lang/Object;ILjava/lang/Class;)[Ljava/lang/Object;"⟩ : MethodName) jdk_65_method_120_code 4 (some (.array (.object "java/lang/Object"))) :: ws) ({ frames := 1, cells := 1, slots := 22, locals := 60 } : Room)) (fun a U => a = #[(.ref ed), (.int (22 : Int32)), (.ref mir)] ∧ Z.Warmed39 U.vm ∧ U.heap = h0) (fun _ _ _ _ _ => True) (fun _ U o U' => ∃ v L, o = .returned v ∧ Q625 Z ed ke vs mir h0 n0 v U'.heap L ∧ FrameEnd U o U' L ({ frames := 1, cells := 1, slots := 22, locals := 60 } : Room).cells ({ frames := 1, cells := 1, slots := 22, locals := 60 } : Room).slots) := by
  refine MetFree.of_bodySF (plainFor_of_name pn_625) hisR ?_
  intro p e s m args below meth c s₁ Bd hml0 hP hK
  obtain ⟨rfl, hZ, hh⟩ := hP
  have hx := Bd.exec
  have hby := Bd.bytes
  have hml : c.maxLocals = 4 := hml0
  have hown : s.vm.findClass "java/util/Arrays" = some m.cls := findClass_of_methodNamed Bd.named
  have hnm := (name_of_methodNamed Bd.named Bd.method).1
  have X0 : Stand p l e ({ frames := 1, cells := 1, slots := 22, locals := 60 } : Room) s m #[(.ref ed), (.int (22 : Int32)), (.ref mir)] below meth c s₁ [] 0 0 := Stand.of_body Bd
  have e0 : s₁.heap = h0 := by rw [← hh, Bd.state]; rfl
  have N0 := Fr.nil n0
  refine Gl.gen fun P hPost => ?_
  refine Gl.st (fun _ k => castTop (ef_625 m ed (22 : Int32) mir ) k) ?_
  show Gl p e below P (s₁.setTop (mkF m 0 #[.val (.ref ed), .val (.int (22 : Int32)), .val (.ref mir), .unset] []))
  refine Gl.st (fun _ k => XS.aloadN X0.here hx rfl (hb hby d61_0) rfl rfl k) ?_
  show Gl p e below P (s₁.setTop (mkF m 1 #[.val (.ref ed), .val (.int (22 : Int32)), .val (.ref mir), .unset] [(.ref mir)]))
  obtain ⟨T1, X1, e1, st1⟩ := own_ldcM X0 hx hZ hown (hw _ (List.mem_of_getElem? (i := 169) rfl)) e0 MI (g := (mkF m 1 #[.val (.ref ed), .val (.int (22 : Int32)), .val (.ref mir), .unset] [(.ref mir)])) rfl (hb hby d61_1)
  refine Gl.st st1 ?_
  show Gl p e below P (T1.setTop (mkF m 3 #[.val (.ref ed), .val (.int (22 : Int32)), .val (.ref mir), .unset] [(.ref mir), (.ref mir)]))
  refine Gl.st (fun _ k => Jvm.RoadKit.acmp (g := (mkF m 3 #[.val (.ref ed), .val (.int (22 : Int32)), .val (.ref mir), .unset] [(.ref mir), (.ref mir)])) X1 hx rfl rfl rfl (pc0 := 3) (pc' := 6) (same := true) rfl (hb hby d61_3) rfl (decide_eq_true rfl) (by decide) (by decide) k) ?_
  show Gl p e below P (T1.setTop (mkF m 6 #[.val (.ref ed), .val (.int (22 : Int32)), .val (.ref mir), .unset] []))
  refine Gl.st (fun _ k => XS.iloadN X1.here hx rfl (hb hby d61_6) rfl k) ?_
  show Gl p e below P (T1.setTop (mkF m 7 #[.val (.ref ed), .val (.int (22 : Int32)), .val (.ref mir), .unset] [(.int (22 : Int32))]))
  obtain ⟨T2, h2, k2, X2, e2, E2, A2, O2, Z2x, st2⟩ := own_newR X1 hx hZ hown (hw _ (List.mem_of_getElem? (i := 170) rfl)) (hw _ (List.mem_of_getElem? (i := 95) rfl)) e1 (g := (mkF m 7 #[.val (.ref ed), .val (.int (22 : Int32)), .val (.ref mir), .unset] [(.int (22 : Int32))])) rfl (hb hby d61_7) rfl (by decide) (cap := 22) (by decide) (by decide) (by decide) (by decide)
  obtain ⟨b2, g2⟩ : ∃ z, z = h0.size := ⟨_, rfl⟩
  rw [← g2] at A2 st2 Z2x
  refine Gl.st st2 ?_
  have g_b2 : n0 ≤ b2 := Nat.le_trans Z0 (Nat.le_of_eq g2.symm)
  have sz_b2 : h0.size ≤ b2 := Nat.le_trans (Keep.refl h0 []).1 (Nat.le_of_eq g2.symm)
  have ne_ed_b2 : ed ≠ b2 := Nat.ne_of_lt (Nat.lt_of_lt_of_le VE.lt (Nat.le_of_eq g2.symm))
  have Z0_v2 : n0 ≤ h2.size := Nat.le_trans Z0 E2.1
  have VE_v2 : Arv Z h2 ed ke (.object "java/lang/Object") (15 : Int32) vs .null := VE.ext E2
  have EE_v2 : Exa Z h2 ed "[Ljava/lang/Object;" := EE.ext E2
  have LE_v2 : own_El Z h2 vs := own_El_ext E2 LE
  have f_K_v2 : Keep h0 h2 [] := (Keep.refl h0 []).ext E2
  have V_b2 : Arv Z h2 b2 k2 (.object "java/lang/Object") (22 : Int32) (List.replicate 22 .null) .null := (Arv.new A2 (by decide)).pad (pad_rep [] .null 22)
  show Gl p e below P (T2.setTop (mkF m 10 #[.val (.ref ed), .val (.int (22 : Int32)), .val (.ref mir), .unset] [(.ref b2)]))
  refine Gl.st (fun _ k => XS.goto X2.here hx rfl (pc0 := 10) (pc' := 24) rfl (hb hby d61_10) (by decide) (by decide) k) ?_
  show Gl p e below P (T2.setTop (mkF m 24 #[.val (.ref ed), .val (.int (22 : Int32)), .val (.ref mir), .unset] [(.ref b2)]))
  refine Gl.st (fun _ k => XS.astoreN X2.here hx rfl (hb hby d61_24) rfl rfl (l' := #[.val (.ref ed), .val (.int (22 : Int32)), .val (.ref mir), .val (.ref b2)]) rfl k) ?_
  show Gl p e below P (T2.setTop (mkF m 25 #[.val (.ref ed), .val (.int (22 : Int32)), .val (.ref mir), .val (.ref b2)] []))
  refine Gl.st (fun _ k => XS.aloadN X2.here hx rfl (hb hby d61_25) rfl rfl k) ?_
  show Gl p e below P (T2.setTop (mkF m 26 #[.val (.ref ed), .val (.int (22 : Int32)), .val (.ref mir), .val (.ref b2)] [(.ref ed)]))
  refine Gl.st (fun _ k => XS.iconst X2.here hx rfl (hb hby d61_26) k) ?_
  show Gl p e below P (T2.setTop (mkF m 27 #[.val (.ref ed), .val (.int (22 : Int32)), .val (.ref mir), .val (.ref b2)] [(.int (0 : Int32)), (.ref ed)]))
  refine Gl.st (fun _ k => XS.aloadN X2.here hx rfl (hb hby d61_27) rfl rfl k) ?_
  show Gl p e below P (T2.setTop (mkF m 28 #[.val (.ref ed), .val (.int (22 : Int32)), .val (.ref mir), .val (.ref b2)] [(.ref b2), (.int (0 : Int32)), (.ref ed)]))
  refine Gl.st (fun _ k => XS.iconst X2.here hx rfl (hb hby d61_28) k) ?_
  show Gl p e below P (T2.setTop (mkF m 29 #[.val (.ref ed), .val (.int (22 : Int32)), .val (.ref mir), .val (.ref b2)] [(.int (0 : Int32)), (.ref b2), (.int (0 : Int32)), (.ref ed)]))
  refine Gl.st (fun _ k => XS.aloadN X2.here hx rfl (hb hby d61_29) rfl rfl k) ?_
  show Gl p e below P (T2.setTop (mkF m 30 #[.val (.ref ed), .val (.int (22 : Int32)), .val (.ref mir), .val (.ref b2)] [(.ref ed), (.int (0 : Int32)), (.ref b2), (.int (0 : Int32)), (.ref ed)]))
  obtain ⟨c3, Ar3, q3, S3, M3, H3, U3⟩ := id VE_v2
  refine Gl.st (X2.arraylength hx (by rw [e2]; exact Ar3.1) (State.isArrayOf_alike hZ.alike Ar3.2.1) (g := (mkF m 30 #[.val (.ref ed), .val (.int (22 : Int32)), .val (.ref mir), .val (.ref b2)] [(.ref ed), (.int (0 : Int32)), (.ref b2), (.int (0 : Int32)), (.ref ed)])) rfl rfl (hb hby d61_30)) ?_
  rw [len_of S3 M3]
  show Gl p e below P (T2.setTop (mkF m 31 #[.val (.ref ed), .val (.int (22 : Int32)), .val (.ref mir), .val (.ref b2)] [(.int (15 : Int32)), (.int (0 : Int32)), (.ref b2), (.int (0 : Int32)), (.ref ed)]))
  refine Gl.st (fun _ k => XS.iloadN X2.here hx rfl (hb hby d61_31) rfl k) ?_
  show Gl p e below P (T2.setTop (mkF m 32 #[.val (.ref ed), .val (.int (22 : Int32)), .val (.ref mir), .val (.ref b2)] [(.int (22 : Int32)), (.int (15 : Int32)), (.int (0 : Int32)), (.ref b2), (.int (0 : Int32)), (.ref ed)]))
  obtain ⟨_, _, ⟨T4, L4, k4, n4⟩, -, X4, ⟨Lc4, hQ4, l4, y4, z4⟩, st4⟩ := Jvm.LawKit.callS X2 hx (y := (⟨"java/lang/Math", "min", "(II)I"⟩ : MethodName)) hown (mvT hZ (hw _ (List.mem_of_getElem? (i := 171) rfl))) (mvT hZ (hw _ (List.mem_of_getElem? (i := 98) rfl))) (mvT hZ (hw _ (List.mem_of_getElem? (i := 92) rfl))) (mvT hZ (hw _ (List.mem_of_getElem? (i := 99) rfl))) (by decide) (backOf (W := 4) (rm51 l Z a0 hw [] (15 : Int32) (22 : Int32) (15 : Int32) h2 n0 Z0_v2 (Or.inr ⟨by decide, rfl⟩)) hZ (hw _ (List.mem_of_getElem? (i := 99) rfl)) (hw _ (List.mem_of_getElem? (i := 92) rfl)) (by decide) (by decide)) (g := (mkF m 32 #[.val (.ref ed), .val (.int (22 : Int32)), .val (.ref mir), .val (.ref b2)] [(.int (22 : Int32)), (.int (15 : Int32)), (.int (0 : Int32)), (.ref b2), (.int (0 : Int32)), (.ref ed)])) rfl (by rw [hml]; rfl) (argsL := [(.int (15 : Int32)), (.int (22 : Int32))]) (rest := [(.int (0 : Int32)), (.ref b2), (.int (0 : Int32)), (.ref ed)]) (lenOf pd_2 rfl) rfl (by show 2 * 0 + _ ≤ _; exact Nat.le_of_eq rfl) (hb hby d61_32) (fun _ _ => ⟨rfl, e2, (by decide : 1 + 0 ≤ _), (by decide : 22 + 0 ≤ _)⟩)
  dsimp only [Pt.U, Pt.locs, Pt.cells, Pt.slots] at X4 l4 y4 z4 st4 hQ4
  subst l4 y4 z4
  obtain ⟨rfl, N4q, e4⟩ := hQ4
  have N4 := Fr.app N0 N4q
  refine Gl.st st4 ?_
  show Gl p e below P (T4.setTop (mkF m 35 #[.val (.ref ed), .val (.int (22 : Int32)), .val (.ref mir), .val (.ref b2)] [(.int (15 : Int32)), (.int (0 : Int32)), (.ref b2), (.int (0 : Int32)), (.ref ed)]))
  obtain ⟨T5, h5, L5, X5, e5, N5, K5, VC5, st5⟩ := cpA X4 hx hZ hown (hw _ (List.mem_of_getElem? (i := 172) rfl)) (hw _ (List.mem_of_getElem? (i := 124) rfl)) (hw _ (List.mem_of_getElem? (i := 122) rfl)) (hw _ (List.mem_of_getElem? (i := 123) rfl)) e4 VE_v2 V_b2 (Or.inr ⟨rfl, rfl, own_StoL V_b2 O2 _ (own_El_map LE_v2 15 0)⟩) (by decide) (by decide) (by decide) (by decide) (by decide) rfl (by decide) N4 g_b2 (g := (mkF m 35 #[.val (.ref ed), .val (.int (22 : Int32)), .val (.ref mir), .val (.ref b2)] [(.int (15 : Int32)), (.int (0 : Int32)), (.ref b2), (.int (0 : Int32)), (.ref ed)])) rfl (by rw [hml]; rfl) rfl (hb hby d61_35) (by decide) (W := 0) (by show 2 * 0 + _ ≤ _; exact Nat.le_of_eq rfl) (by decide)
  refine Gl.st st5 ?_
  have Z0_v5 : n0 ≤ h5.size := Nat.le_trans Z0_v2 K5.1
  have VE_v5 : Arv Z h5 ed ke (.object "java/lang/Object") (15 : Int32) vs .null := VE_v2.keep K5 (ninS ne_ed_b2 nin0)
  have EE_v5 : Exa Z h5 ed "[Ljava/lang/Object;" := EE_v2.keep K5
  have LE_v5 : own_El Z h5 vs := own_El_keep K5 LE_v2
  have f_K_v5 : Keep h0 h5 [] := f_K_v2.trans K5 (allS (Or.inr sz_b2) all0)
  have Z2x_v5 : Exa Z h5 b2 "[Ljava/lang/Object;" := Z2x.keep K5
  show Gl p e below P (T5.setTop (mkF m 38 #[.val (.ref ed), .val (.int (22 : Int32)), .val (.ref mir), .val (.ref b2)] []))
  refine Gl.st (fun _ k => XS.aloadN X5.here hx rfl (hb hby d61_38) rfl rfl k) ?_
  show Gl p e below P (T5.setTop (mkF m 39 #[.val (.ref ed), .val (.int (22 : Int32)), .val (.ref mir), .val (.ref b2)] [(.ref b2)]))
  obtain ⟨fs, hr, hrun, hended, hW, hsame⟩ := X5.leave (v := some (.ref b2)) (fun h => by rw [Bd.returns] at h; cases h)
  refine ⟨_, _, retOut X5 hx Bd.returns rfl (Or.inr (Or.inr (Or.inr (Or.inr ⟨rfl, rfl, rfl⟩)))) (hb hby d61_39) hr, hrun, hended, hPost _ _ ⟨_, _, rfl, ?_, ⟨_, rfl⟩, hW, hsame.mono (by decide) (by decide)⟩⟩
  show Q625 Z ed ke vs mir h0 n0 _ T5.heap _
  rw [e5]
  exact ⟨_, k2, _, rfl, N5, f_K_v5, Z2x_v5, VC5, own_El_app (own_El_app (fun _ q => nomatch q) (own_El_map LE_v5 15 0)) (own_El_drop (own_El_rep 22) _), by simp [show ((15 : Int32)).toNatClampNeg = 15 from by decide, show ((0 : Int32)).toNatClampNeg = 0 from by decide], O2, sz_b2⟩
theorem pn_650 : plainName "java/util/Arrays" = true := by first | (simp [plainName, overriddenIn]; done) | decide +kernel
theorem ef_650 (m : MethodId) (x0 : Addr) (x1 : Int32) : entryFrame m #[(.ref x0), (.int x1)] 2 = mkF m 0 #[.val (.ref x0), .val (.int x1)] [] := by first | (simp [entryFrame, mkF, argsToLocals, Value.category]; done) | rfl
def Q650 (Z : State) (ed : Addr) (ke : ClassId) (vs : List Value) (mir : Addr) (h0 : Heap) (n0 : Nat) (v : Option Value) (h : Heap) (L : List Loc) : Prop := ∃ ed2 ke2 vs2, v = some (.ref ed2) ∧ Fr n0 L ∧ Keep h0 h [] ∧ Exa Z h ed2 "[Ljava/lang/Object;" ∧ Arv Z h ed2 ke2 (.object "java/lang/Object") (15 : Int32) vs2 .null ∧ own_El Z h vs2 ∧ vs2.length = 15 ∧ Ovr Z ke2 "java/lang/Object" ∧ h0.size ≤ ed2
set_option maxRecDepth 65536 in
set_option maxHeartbeats 40000000 in
theorem rm650 (l : Launch) (Z : State) (a0 : Array Value) (hw : ∀ d ∈ tables_1, d.before a0 Z = true) (ws : List Jvm.Cond) (ed : Addr) (ke : ClassId) (vs : List Value) (mir : Addr) (h0 : Heap) (n0 : Nat) (Z0 : n0 ≤ h0.size) (VE : Arv Z h0 ed ke (.object "java/lang/Object") (10 : Int32) vs .null) (EE : Exa Z h0 ed "[Ljava/lang/Object;") (LE : own_El Z h0 vs) (MI : Mir Z "[Ljava/lang/Object;" mir) :
    MetFree l (⟨"java/util/Arrays", "copyOf", "([Ljava/lang/Object;I)[Ljava/lang/Object;"⟩ : MethodName) (head1 (Jvm.Cond.code (⟨"java/util/Arrays", "copyOf", "([Ljava/lang/Object;I)[Ljava/lang/Object;"⟩ : MethodName) jdk_65_method_119_code 2 (some (.array (.object "java/lang/Object"))) :: ws) ({ frames := 2, cells := 1, slots := 15, locals := 80 } : Room)) (fun a U => a = #[(.ref ed), (.int (15 : Int32))] ∧ Z.Warmed39 U.vm ∧ U.heap = h0) (fun _ _ _ _ _ => True) (fun _ U o U' => ∃ v L, o = .returned v ∧ Q650 Z ed ke vs mir h0 n0 v U'.heap L ∧ FrameEnd U o U' L ({ frames := 2, cells := 1, slots := 15, locals := 80 } : Room).cells ({ frames := 2, cells := 1, slots := 15, locals := 80 } : Room).slots) := by
  refine MetFree.of_bodySF (plainFor_of_name pn_650) hisR ?_
  intro p e s m args below meth c s₁ Bd hml0 hP hK
  obtain ⟨rfl, hZ, hh⟩ := hP
  have hx := Bd.exec
  have hby := Bd.bytes
  have hml : c.maxLocals = 2 := hml0
  have hown : s.vm.findClass "java/util/Arrays" = some m.cls := findClass_of_methodNamed Bd.named
  have hnm := (name_of_methodNamed Bd.named Bd.method).1
  have X0 : Stand p l e ({ frames := 2, cells := 1, slots := 15, locals := 80 } : Room) s m #[(.ref ed), (.int (15 : Int32))] below meth c s₁ [] 0 0 := Stand.of_body Bd
  have e0 : s₁.heap = h0 := by rw [← hh, Bd.state]; rfl
  have N0 := Fr.nil n0
  refine Gl.gen fun P hPost => ?_
  refine Gl.st (fun _ k => castTop (ef_650 m ed (15 : Int32) ) k) ?_
  show Gl p e below P (s₁.setTop (mkF m 0 #[.val (.ref ed), .val (.int (15 : Int32))] []))
  refine Gl.st (fun _ k => XS.aloadN X0.here hx rfl (hb hby d62_0) rfl rfl k) ?_
  show Gl p e below P (s₁.setTop (mkF m 1 #[.val (.ref ed), .val (.int (15 : Int32))] [(.ref ed)]))
  refine Gl.st (fun _ k => XS.iloadN X0.here hx rfl (hb hby d62_1) rfl k) ?_
  show Gl p e below P (s₁.setTop (mkF m 2 #[.val (.ref ed), .val (.int (15 : Int32))] [(.int (15 : Int32)), (.ref ed)]))
  refine Gl.st (fun _ k => XS.aloadN X0.here hx rfl (hb hby d62_2) rfl rfl k) ?_
  show Gl p e below P (s₁.setTop (mkF m 3 #[.val (.ref ed), .val (.int (15 : Int32))] [(.ref ed), (.int (15 : Int32)), (.ref ed)]))
  obtain ⟨T1, X1, e1, st1⟩ := own_gcls X0 hx hZ hown (hw _ (List.mem_of_getElem? (i := 160) rfl)) (hw _ (List.mem_of_getElem? (i := 161) rfl)) (hw _ (List.mem_of_getElem? (i := 163) rfl)) (hw _ (List.mem_of_getElem? (i := 162) rfl)) (hw _ (List.mem_of_getElem? (i := 164) rfl)) e0 EE MI (g := (mkF m 3 #[.val (.ref ed), .val (.int (15 : Int32))] [(.ref ed), (.int (15 : Int32)), (.ref ed)])) rfl (by rw [hml]; rfl) rfl (hb hby d62_3) (by decide) (W := 2) (by show 2 * 0 + _ ≤ _; exact Nat.le_of_eq rfl) (by decide)
  refine Gl.st st1 ?_
  show Gl p e below P (T1.setTop (mkF m 6 #[.val (.ref ed), .val (.int (15 : Int32))] [(.ref mir), (.int (15 : Int32)), (.ref ed)]))
  obtain ⟨_, _, ⟨T2, L2, k2, n2⟩, -, X2, ⟨Lc2, hQ2, l2, y2, z2⟩, st2⟩ := Jvm.LawKit.callS X1 hx (y := (⟨"java/util/Arrays", "copyOf", "([Ljava/lang/Object;ILjava/lang/Class;)[Ljava/lang/Object;"⟩ : MethodName)) hown (mvT hZ (hw _ (List.mem_of_getElem? (i := 166) rfl))) (mvT hZ (hw _ (List.mem_of_getElem? (i := 167) rfl))) (mvT hZ (hw _ (List.mem_of_getElem? (i := 158) rfl))) (mvT hZ (hw _ (List.mem_of_getElem? (i := 168) rfl))) (by decide) (backOf (W := 0) (rm620 l Z a0 hw [] ed ke vs mir h0 n0 Z0 VE EE LE MI) hZ (hw _ (List.mem_of_getElem? (i := 168) rfl)) (hw _ (List.mem_of_getElem? (i := 158) rfl)) (by decide) (by decide)) (g := (mkF m 6 #[.val (.ref ed), .val (.int (15 : Int32))] [(.ref mir), (.int (15 : Int32)), (.ref ed)])) rfl (by rw [hml]; rfl) (argsL := [(.ref ed), (.int (15 : Int32)), (.ref mir)]) (rest := []) (lenOf pd_4 rfl) rfl (by show 2 * 0 + _ ≤ _; exact Nat.le_of_eq rfl) (hb hby d62_6) (fun _ _ => ⟨rfl, e1, (by decide : 0 + 1 ≤ _), (by decide : 0 + 15 ≤ _)⟩)
  dsimp only [Pt.U, Pt.locs, Pt.cells, Pt.slots] at X2 l2 y2 z2 st2 hQ2
  subst l2 y2 z2
  obtain ⟨ed2, ke2, vs2, rfl, N2q, K2, EE2, VN2, LN2, hl2, OV2, gn2⟩ := hQ2
  have N2 := Fr.app N0 N2q
  have Z0_v2 : n0 ≤ T2.heap.size := Nat.le_trans Z0 K2.1
  have VE_v2 : Arv Z T2.heap ed ke (.object "java/lang/Object") (10 : Int32) vs .null := VE.keep K2 nin0
  have EE_v2 : Exa Z T2.heap ed "[Ljava/lang/Object;" := EE.keep K2
  have LE_v2 : own_El Z T2.heap vs := own_El_keep K2 LE
  have f_K_v2 : Keep h0 T2.heap [] := (Keep.refl h0 []).trans K2 all0
  refine Gl.st st2 ?_
  show Gl p e below P (T2.setTop (mkF m 9 #[.val (.ref ed), .val (.int (15 : Int32))] [(.ref ed2)]))
  obtain ⟨fs, hr, hrun, hended, hW, hsame⟩ := X2.leave (v := some (.ref ed2)) (fun h => by rw [Bd.returns] at h; cases h)
  refine ⟨_, _, retOut X2 hx Bd.returns rfl (Or.inr (Or.inr (Or.inr (Or.inr ⟨rfl, rfl, rfl⟩)))) (hb hby d62_9) hr, hrun, hended, hPost _ _ ⟨_, _, rfl, ?_, ⟨_, rfl⟩, hW, hsame.mono (by decide) (by decide)⟩⟩
  show Q650 Z ed ke vs mir h0 n0 _ T2.heap _
  exact ⟨_, _, _, rfl, N2, f_K_v2, EE2, VN2, LN2, hl2, OV2, gn2⟩
theorem pn_655 : plainName "java/util/Arrays" = true := by first | (simp [plainName, overriddenIn]; done) | decide +kernel
theorem ef_655 (m : MethodId) (x0 : Addr) (x1 : Int32) : entryFrame m #[(.ref x0), (.int x1)] 2 = mkF m 0 #[.val (.ref x0), .val (.int x1)] [] := by first | (simp [entryFrame, mkF, argsToLocals, Value.category]; done) | rfl
def Q655 (Z : State) (ed : Addr) (ke : ClassId) (vs : List Value) (mir : Addr) (h0 : Heap) (n0 : Nat) (v : Option Value) (h : Heap) (L : List Loc) : Prop := ∃ ed2 ke2 vs2, v = some (.ref ed2) ∧ Fr n0 L ∧ Keep h0 h [] ∧ Exa Z h ed2 "[Ljava/lang/Object;" ∧ Arv Z h ed2 ke2 (.object "java/lang/Object") (22 : Int32) vs2 .null ∧ own_El Z h vs2 ∧ vs2.length = 22 ∧ Ovr Z ke2 "java/lang/Object" ∧ h0.size ≤ ed2
set_option maxRecDepth 65536 in
set_option maxHeartbeats 40000000 in
theorem rm655 (l : Launch) (Z : State) (a0 : Array Value) (hw : ∀ d ∈ tables_1, d.before a0 Z = true) (ws : List Jvm.Cond) (ed : Addr) (ke : ClassId) (vs : List Value) (mir : Addr) (h0 : Heap) (n0 : Nat) (Z0 : n0 ≤ h0.size) (VE : Arv Z h0 ed ke (.object "java/lang/Object") (15 : Int32) vs .null) (EE : Exa Z h0 ed "[Ljava/lang/Object;") (LE : own_El Z h0 vs) (MI : Mir Z "[Ljava/lang/Object;" mir) :
    MetFree l (⟨"java/util/Arrays", "copyOf", "([Ljava/lang/Object;I)[Ljava/lang/Object;"⟩ : MethodName) (head1 (Jvm.Cond.code (⟨"java/util/Arrays", "copyOf", "([Ljava/lang/Object;I)[Ljava/lang/Object;"⟩ : MethodName) jdk_65_method_119_code 2 (some (.array (.object "java/lang/Object"))) :: ws) ({ frames := 2, cells := 1, slots := 22, locals := 80 } : Room)) (fun a U => a = #[(.ref ed), (.int (22 : Int32))] ∧ Z.Warmed39 U.vm ∧ U.heap = h0) (fun _ _ _ _ _ => True) (fun _ U o U' => ∃ v L, o = .returned v ∧ Q655 Z ed ke vs mir h0 n0 v U'.heap L ∧ FrameEnd U o U' L ({ frames := 2, cells := 1, slots := 22, locals := 80 } : Room).cells ({ frames := 2, cells := 1, slots := 22, locals := 80 } : Room).slots) := by
  refine MetFree.of_bodySF (plainFor_of_name pn_655) hisR ?_
  intro p e s m args below meth c s₁ Bd hml0 hP hK
  obtain ⟨rfl, hZ, hh⟩ := hP
  have hx := Bd.exec
  have hby := Bd.bytes
  have hml : c.maxLocals = 2 := hml0
  have hown : s.vm.findClass "java/util/Arrays" = some m.cls := findClass_of_methodNamed Bd.named
  have hnm := (name_of_methodNamed Bd.named Bd.method).1
  have X0 : Stand p l e ({ frames := 2, cells := 1, slots := 22, locals := 80 } : Room) s m #[(.ref ed), (.int (22 : Int32))] below meth c s₁ [] 0 0 := Stand.of_body Bd
  have e0 : s₁.heap = h0 := by rw [← hh, Bd.state]; rfl
  have N0 := Fr.nil n0
  refine Gl.gen fun P hPost => ?_
  refine Gl.st (fun _ k => castTop (ef_655 m ed (22 : Int32) ) k) ?_
  show Gl p e below P (s₁.setTop (mkF m 0 #[.val (.ref ed), .val (.int (22 : Int32))] []))
  refine Gl.st (fun _ k => XS.aloadN X0.here hx rfl (hb hby d62_0) rfl rfl k) ?_
  show Gl p e below P (s₁.setTop (mkF m 1 #[.val (.ref ed), .val (.int (22 : Int32))] [(.ref ed)]))
  refine Gl.st (fun _ k => XS.iloadN X0.here hx rfl (hb hby d62_1) rfl k) ?_
  show Gl p e below P (s₁.setTop (mkF m 2 #[.val (.ref ed), .val (.int (22 : Int32))] [(.int (22 : Int32)), (.ref ed)]))
  refine Gl.st (fun _ k => XS.aloadN X0.here hx rfl (hb hby d62_2) rfl rfl k) ?_
  show Gl p e below P (s₁.setTop (mkF m 3 #[.val (.ref ed), .val (.int (22 : Int32))] [(.ref ed), (.int (22 : Int32)), (.ref ed)]))
  obtain ⟨T1, X1, e1, st1⟩ := own_gcls X0 hx hZ hown (hw _ (List.mem_of_getElem? (i := 160) rfl)) (hw _ (List.mem_of_getElem? (i := 161) rfl)) (hw _ (List.mem_of_getElem? (i := 163) rfl)) (hw _ (List.mem_of_getElem? (i := 162) rfl)) (hw _ (List.mem_of_getElem? (i := 164) rfl)) e0 EE MI (g := (mkF m 3 #[.val (.ref ed), .val (.int (22 : Int32))] [(.ref ed), (.int (22 : Int32)), (.ref ed)])) rfl (by rw [hml]; rfl) rfl (hb hby d62_3) (by decide) (W := 2) (by show 2 * 0 + _ ≤ _; exact Nat.le_of_eq rfl) (by decide)
  refine Gl.st st1 ?_
  show Gl p e below P (T1.setTop (mkF m 6 #[.val (.ref ed), .val (.int (22 : Int32))] [(.ref mir), (.int (22 : Int32)), (.ref ed)]))
  obtain ⟨_, _, ⟨T2, L2, k2, n2⟩, -, X2, ⟨Lc2, hQ2, l2, y2, z2⟩, st2⟩ := Jvm.LawKit.callS X1 hx (y := (⟨"java/util/Arrays", "copyOf", "([Ljava/lang/Object;ILjava/lang/Class;)[Ljava/lang/Object;"⟩ : MethodName)) hown (mvT hZ (hw _ (List.mem_of_getElem? (i := 166) rfl))) (mvT hZ (hw _ (List.mem_of_getElem? (i := 167) rfl))) (mvT hZ (hw _ (List.mem_of_getElem? (i := 158) rfl))) (mvT hZ (hw _ (List.mem_of_getElem? (i := 168) rfl))) (by decide) (backOf (W := 0) (rm625 l Z a0 hw [] ed ke vs mir h0 n0 Z0 VE EE LE MI) hZ (hw _ (List.mem_of_getElem? (i := 168) rfl)) (hw _ (List.mem_of_getElem? (i := 158) rfl)) (by decide) (by decide)) (g := (mkF m 6 #[.val (.ref ed), .val (.int (22 : Int32))] [(.ref mir), (.int (22 : Int32)), (.ref ed)])) rfl (by rw [hml]; rfl) (argsL := [(.ref ed), (.int (22 : Int32)), (.ref mir)]) (rest := []) (lenOf pd_4 rfl) rfl (by show 2 * 0 + _ ≤ _; exact Nat.le_of_eq rfl) (hb hby d62_6) (fun _ _ => ⟨rfl, e1, (by decide : 0 + 1 ≤ _), (by decide : 0 + 22 ≤ _)⟩)
  dsimp only [Pt.U, Pt.locs, Pt.cells, Pt.slots] at X2 l2 y2 z2 st2 hQ2
  subst l2 y2 z2
  obtain ⟨ed2, ke2, vs2, rfl, N2q, K2, EE2, VN2, LN2, hl2, OV2, gn2⟩ := hQ2
  have N2 := Fr.app N0 N2q
  have Z0_v2 : n0 ≤ T2.heap.size := Nat.le_trans Z0 K2.1
  have VE_v2 : Arv Z T2.heap ed ke (.object "java/lang/Object") (15 : Int32) vs .null := VE.keep K2 nin0
  have EE_v2 : Exa Z T2.heap ed "[Ljava/lang/Object;" := EE.keep K2
  have LE_v2 : own_El Z T2.heap vs := own_El_keep K2 LE
  have f_K_v2 : Keep h0 T2.heap [] := (Keep.refl h0 []).trans K2 all0
  refine Gl.st st2 ?_
  show Gl p e below P (T2.setTop (mkF m 9 #[.val (.ref ed), .val (.int (22 : Int32))] [(.ref ed2)]))
  obtain ⟨fs, hr, hrun, hended, hW, hsame⟩ := X2.leave (v := some (.ref ed2)) (fun h => by rw [Bd.returns] at h; cases h)
  refine ⟨_, _, retOut X2 hx Bd.returns rfl (Or.inr (Or.inr (Or.inr (Or.inr ⟨rfl, rfl, rfl⟩)))) (hb hby d62_9) hr, hrun, hended, hPost _ _ ⟨_, _, rfl, ?_, ⟨_, rfl⟩, hW, hsame.mono (by decide) (by decide)⟩⟩
  show Q655 Z ed ke vs mir h0 n0 _ T2.heap _
  exact ⟨_, _, _, rfl, N2, f_K_v2, EE2, VN2, LN2, hl2, OV2, gn2⟩
theorem pn_660 : plainName "java/util/ArrayList" = true := by first | (simp [plainName, overriddenIn]; done) | decide +kernel
theorem ef_660 (m : MethodId) (x0 : Addr) (x1 : Int32) : entryFrame m #[(.ref x0), (.int x1)] 4 = mkF m 0 #[.val (.ref x0), .val (.int x1), .unset, .unset] [] := by first | (simp [entryFrame, mkF, argsToLocals, Value.category]; done) | rfl
def Q660 (Z : State) (li : Addr) (ed : Addr) (ke : ClassId) (cap : Nat) (n : Nat) (vs : List Value) (mc : Int32) (dc : Addr) (mir : Addr) (h0 : Heap) (n0 : Nat) (v : Option Value) (h : Heap) (L : List Loc) : Prop := ∃ ed2 ke2 vs2, v = some (.ref ed2) ∧ Fr n0 L ∧ Keep h0 h [li] ∧ own_Ls Z n0 dc h li ed2 ke2 10 n vs2 mc ∧ h0.size ≤ ed2
set_option maxRecDepth 65536 in
set_option maxHeartbeats 40000000 in
theorem rm660 (l : Launch) (Z : State) (a0 : Array Value) (hw : ∀ d ∈ tables_1, d.before a0 Z = true) (ws : List Jvm.Cond) (li : Addr) (ed : Addr) (ke : ClassId) (cap : Nat) (n : Nat) (vs : List Value) (mc : Int32) (dc : Addr) (mir : Addr) (h0 : Heap) (n0 : Nat) (Z0 : n0 ≤ h0.size) (HL : own_Ls Z n0 dc h0 li ed ke cap n vs mc) (hcap : cap = 0) (hn : n = 0) (gi : n0 ≤ li) (O0 : Old Z n0 h0) (SD : Sta Z Z.heap "java/util/ArrayList" "DEFAULTCAPACITY_EMPTY_ELEMENTDATA" "[Ljava/lang/Object;" (.ref dc)) (MI : Mir Z "[Ljava/lang/Object;" mir) :
    MetFree l (⟨"java/util/ArrayList", "grow", "(I)[Ljava/lang/Object;"⟩ : MethodName) (head1 (Jvm.Cond.code (⟨"java/util/ArrayList", "grow", "(I)[Ljava/lang/Object;"⟩ : MethodName) jdk_38_method_6_code 4 (some (.array (.object "java/lang/Object"))) :: ws) ({ frames := 3, cells := 1, slots := 10, locals := 96 } : Room)) (fun a U => a = #[(.ref li), (.int (1 : Int32))] ∧ Z.Warmed39 U.vm ∧ U.heap = h0) (fun _ _ _ _ _ => True) (fun _ U o U' => ∃ v L, o = .returned v ∧ Q660 Z li ed ke cap n vs mc dc mir h0 n0 v U'.heap L ∧ FrameEnd U o U' L ({ frames := 3, cells := 1, slots := 10, locals := 96 } : Room).cells ({ frames := 3, cells := 1, slots := 10, locals := 96 } : Room).slots) := by
  refine MetFree.of_bodySF (plainFor_of_name pn_660) hisR ?_
  intro p e s m args below meth c s₁ Bd hml0 hP hK
  obtain ⟨rfl, hZ, hh⟩ := hP
  have hx := Bd.exec
  have hby := Bd.bytes
  have hml : c.maxLocals = 4 := hml0
  have hown : s.vm.findClass "java/util/ArrayList" = some m.cls := findClass_of_methodNamed Bd.named
  have hnm := (name_of_methodNamed Bd.named Bd.method).1
  have X0 : Stand p l e ({ frames := 3, cells := 1, slots := 10, locals := 96 } : Room) s m #[(.ref li), (.int (1 : Int32))] below meth c s₁ [] 0 0 := Stand.of_body Bd
  have e0 : s₁.heap = h0 := by rw [← hh, Bd.state]; rfl
  have N0 := Fr.nil n0
  refine Gl.gen fun P hPost => ?_
  refine Gl.st (fun _ k => castTop (ef_660 m li (1 : Int32) ) k) ?_
  show Gl p e below P (s₁.setTop (mkF m 0 #[.val (.ref li), .val (.int (1 : Int32)), .unset, .unset] []))
  obtain ⟨EL, FD, FS, FM, EE, VE, LE, hvl, hnc, hcp⟩ := id HL
  have nle : li ≠ ed := EL.neArv VE (hw _ (List.mem_of_getElem? (i := 16) rfl))
  have VEl : Arv Z h0 ed ke (.object "java/lang/Object") (0 : Int32) vs .null := by have q := VE; rw [hcap] at q; exact q
  refine Gl.st (fun _ k => XS.aloadN X0.here hx rfl (hb hby d63_0) rfl rfl k) ?_
  show Gl p e below P (s₁.setTop (mkF m 1 #[.val (.ref li), .val (.int (1 : Int32)), .unset, .unset] [(.ref li)]))
  obtain ⟨T1, X1, e1, st1⟩ := getF X0 hx hZ hown (host := "") (Or.inl (hw _ (List.mem_of_getElem? (i := 37) rfl))) Via.refl e0 FD (g := (mkF m 1 #[.val (.ref li), .val (.int (1 : Int32)), .unset, .unset] [(.ref li)])) rfl rfl (hb hby d63_1)
  refine Gl.st st1 ?_
  show Gl p e below P (T1.setTop (mkF m 4 #[.val (.ref li), .val (.int (1 : Int32)), .unset, .unset] [(.ref ed)]))
  obtain ⟨c2, Ar2, q2, S2, M2, H2, U2⟩ := id VEl
  refine Gl.st (X1.arraylength hx (by rw [e1]; exact Ar2.1) (State.isArrayOf_alike hZ.alike Ar2.2.1) (g := (mkF m 4 #[.val (.ref li), .val (.int (1 : Int32)), .unset, .unset] [(.ref ed)])) rfl rfl (hb hby d63_4)) ?_
  rw [len_of S2 M2]
  show Gl p e below P (T1.setTop (mkF m 5 #[.val (.ref li), .val (.int (1 : Int32)), .unset, .unset] [(.int (0 : Int32))]))
  refine Gl.st (fun _ k => XS.istoreN X1.here hx rfl (hb hby d63_5) rfl (l' := #[.val (.ref li), .val (.int (1 : Int32)), .val (.int (0 : Int32)), .unset]) rfl k) ?_
  show Gl p e below P (T1.setTop (mkF m 6 #[.val (.ref li), .val (.int (1 : Int32)), .val (.int (0 : Int32)), .unset] []))
  refine Gl.st (fun _ k => XS.iloadN X1.here hx rfl (hb hby d63_6) rfl k) ?_
  show Gl p e below P (T1.setTop (mkF m 7 #[.val (.ref li), .val (.int (1 : Int32)), .val (.int (0 : Int32)), .unset] [(.int (0 : Int32))]))
  refine Gl.st (fun _ k => XS.ifNo X1.here hx rfl (hb hby d63_7) rfl ((if0 _ _).trans (flt (by decide : ¬ ((0 : Int32) < (0 : Int32)))).2.2.1) k) ?_
  show Gl p e below P (T1.setTop (mkF m 10 #[.val (.ref li), .val (.int (1 : Int32)), .val (.int (0 : Int32)), .unset] []))
  refine Gl.st (fun _ k => XS.aloadN X1.here hx rfl (hb hby d63_10) rfl rfl k) ?_
  show Gl p e below P (T1.setTop (mkF m 11 #[.val (.ref li), .val (.int (1 : Int32)), .val (.int (0 : Int32)), .unset] [(.ref li)]))
  obtain ⟨T3, X3, e3, st3⟩ := getF X1 hx hZ hown (host := "") (Or.inl (hw _ (List.mem_of_getElem? (i := 37) rfl))) Via.refl e1 FD (g := (mkF m 11 #[.val (.ref li), .val (.int (1 : Int32)), .val (.int (0 : Int32)), .unset] [(.ref li)])) rfl rfl (hb hby d63_11)
  refine Gl.st st3 ?_
  show Gl p e below P (T3.setTop (mkF m 14 #[.val (.ref li), .val (.int (1 : Int32)), .val (.int (0 : Int32)), .unset] [(.ref ed)]))
  obtain ⟨T4, X4, e4, st4⟩ := getS2 X3 hx hZ hown (host := "") (Or.inl (hw _ (List.mem_of_getElem? (i := 36) rfl))) Via.refl e3 (SD.ext O0.2) (g := (mkF m 14 #[.val (.ref li), .val (.int (1 : Int32)), .val (.int (0 : Int32)), .unset] [(.ref ed)])) rfl (hb hby d63_14)
  refine Gl.st st4 ?_
  show Gl p e below P (T4.setTop (mkF m 17 #[.val (.ref li), .val (.int (1 : Int32)), .val (.int (0 : Int32)), .unset] [(.ref dc), (.ref ed)]))
  have hed : ed = dc := by rcases hcp with ⟨-, q⟩ | ⟨q, -⟩; exact q; omega
  refine Gl.st (fun _ k => Jvm.RoadKit.acmp (g := (mkF m 17 #[.val (.ref li), .val (.int (1 : Int32)), .val (.int (0 : Int32)), .unset] [(.ref dc), (.ref ed)])) X4 hx rfl rfl rfl (pc0 := 17) (pc' := 45) (same := true) rfl (hb hby d63_17) rfl (decide_eq_true (by rw [hed])) (by decide) (by decide) k) ?_
  show Gl p e below P (T4.setTop (mkF m 45 #[.val (.ref li), .val (.int (1 : Int32)), .val (.int (0 : Int32)), .unset] []))
  refine Gl.st (fun _ k => XS.aloadN X4.here hx rfl (hb hby d63_45) rfl rfl k) ?_
  show Gl p e below P (T4.setTop (mkF m 46 #[.val (.ref li), .val (.int (1 : Int32)), .val (.int (0 : Int32)), .unset] [(.ref li)]))
  refine Gl.st (fun _ k => XS.bipush X4.here hx rfl (hb hby d63_46) k) ?_
  show Gl p e below P (T4.setTop (mkF m 48 #[.val (.ref li), .val (.int (1 : Int32)), .val (.int (0 : Int32)), .unset] [(.int (10 : Int32)), (.ref li)]))
  refine Gl.st (fun _ k => XS.iloadN X4.here hx rfl (hb hby d63_48) rfl k) ?_
  show Gl p e below P (T4.setTop (mkF m 49 #[.val (.ref li), .val (.int (1 : Int32)), .val (.int (0 : Int32)), .unset] [(.int (1 : Int32)), (.int (10 : Int32)), (.ref li)]))
  obtain ⟨_, _, ⟨T5, L5, k5, n5⟩, -, X5, ⟨Lc5, hQ5, l5, y5, z5⟩, st5⟩ := Jvm.LawKit.callS X4 hx (y := (⟨"java/lang/Math", "max", "(II)I"⟩ : MethodName)) hown (mvT hZ (hw _ (List.mem_of_getElem? (i := 90) rfl))) (mvT hZ (hw _ (List.mem_of_getElem? (i := 91) rfl))) (mvT hZ (hw _ (List.mem_of_getElem? (i := 92) rfl))) (mvT hZ (hw _ (List.mem_of_getElem? (i := 93) rfl))) (by decide) (backOf (W := 1) (rm52 l Z a0 hw [] (10 : Int32) (1 : Int32) (10 : Int32) h0 n0 Z0 (Or.inr ⟨by decide, rfl⟩)) hZ (hw _ (List.mem_of_getElem? (i := 93) rfl)) (hw _ (List.mem_of_getElem? (i := 92) rfl)) (by decide) (by decide)) (g := (mkF m 49 #[.val (.ref li), .val (.int (1 : Int32)), .val (.int (0 : Int32)), .unset] [(.int (1 : Int32)), (.int (10 : Int32)), (.ref li)])) rfl (by rw [hml]; rfl) (argsL := [(.int (10 : Int32)), (.int (1 : Int32))]) (rest := [(.ref li)]) (lenOf pd_2 rfl) rfl (by show 2 * 0 + _ ≤ _; exact Nat.le_of_eq rfl) (hb hby d63_49) (fun _ _ => ⟨rfl, e4, (by decide : 0 + 0 ≤ _), (by decide : 0 + 0 ≤ _)⟩)
  dsimp only [Pt.U, Pt.locs, Pt.cells, Pt.slots] at X5 l5 y5 z5 st5 hQ5
  subst l5 y5 z5
  obtain ⟨rfl, N5q, e5⟩ := hQ5
  have N5 := Fr.app N0 N5q
  refine Gl.st st5 ?_
  show Gl p e below P (T5.setTop (mkF m 52 #[.val (.ref li), .val (.int (1 : Int32)), .val (.int (0 : Int32)), .unset] [(.int (10 : Int32)), (.ref li)]))
  obtain ⟨T6, h6, k6, X6, e6, E6, A6, O6, Z6x, st6⟩ := own_newR X5 hx hZ hown (hw _ (List.mem_of_getElem? (i := 94) rfl)) (hw _ (List.mem_of_getElem? (i := 95) rfl)) e5 (g := (mkF m 52 #[.val (.ref li), .val (.int (1 : Int32)), .val (.int (0 : Int32)), .unset] [(.int (10 : Int32)), (.ref li)])) rfl (hb hby d63_52) rfl (by decide) (cap := 10) (by decide) (by decide) (by decide) (by decide)
  obtain ⟨b6, g6⟩ : ∃ z, z = h0.size := ⟨_, rfl⟩
  rw [← g6] at A6 st6 Z6x
  refine Gl.st st6 ?_
  have g_b6 : n0 ≤ b6 := Nat.le_trans Z0 (Nat.le_of_eq g6.symm)
  have sz_b6 : h0.size ≤ b6 := Nat.le_trans (Keep.refl h0 [li]).1 (Nat.le_of_eq g6.symm)
  have ne_li_b6 : li ≠ b6 := Nat.ne_of_lt (Nat.lt_of_lt_of_le EL.lt (Nat.le_of_eq g6.symm))
  have ne_ed_b6 : ed ≠ b6 := Nat.ne_of_lt (Nat.lt_of_lt_of_le EE.lt (Nat.le_of_eq g6.symm))
  have Z0_v6 : n0 ≤ h6.size := Nat.le_trans Z0 E6.1
  have EL_v6 : Exa Z h6 li "java/util/ArrayList" := EL.ext E6
  have FD_v6 : Fld Z h6 li "java/util/ArrayList" "elementData" "[Ljava/lang/Object;" (.ref ed) := FD.ext E6
  have FS_v6 : Fld Z h6 li "java/util/ArrayList" "size" "I" (.int (Int32.ofNat n)) := FS.ext E6
  have FM_v6 : Fld Z h6 li "java/util/AbstractList" "modCount" "I" (.int mc) := FM.ext E6
  have EE_v6 : Exa Z h6 ed "[Ljava/lang/Object;" := EE.ext E6
  have VEl_v6 : Arv Z h6 ed ke (.object "java/lang/Object") (0 : Int32) vs .null := VEl.ext E6
  have LE_v6 : own_El Z h6 vs := own_El_ext E6 LE
  have f_K_v6 : Keep h0 h6 [li] := (Keep.refl h0 [li]).ext E6
  have O0_v6 : Old Z n0 h6 := O0.ext E6
  have f_S_java_util_ArrayList_DEFAULTCAPACITY_EMPTY_ELEMENTDATA_v6 : Sta Z h6 "java/util/ArrayList" "DEFAULTCAPACITY_EMPTY_ELEMENTDATA" "[Ljava/lang/Object;" (.ref dc) := (SD.ext O0.2).ext E6
  have V_b6 : Arv Z h6 b6 k6 (.object "java/lang/Object") (10 : Int32) (List.replicate 10 .null) .null := (Arv.new A6 (by decide)).pad (pad_rep [] .null 10)
  show Gl p e below P (T6.setTop (mkF m 55 #[.val (.ref li), .val (.int (1 : Int32)), .val (.int (0 : Int32)), .unset] [(.ref b6), (.ref li)]))
  refine Gl.st (fun _ k => XS.dupX1 X6.here hx rfl (hb hby d63_55) rfl rfl rfl k) ?_
  show Gl p e below P (T6.setTop (mkF m 56 #[.val (.ref li), .val (.int (1 : Int32)), .val (.int (0 : Int32)), .unset] [(.ref b6), (.ref li), (.ref b6)]))
  obtain ⟨T7, h7, X7, e7, W7, st7⟩ := putF X6 hx hZ hown (host := "") (Or.inl (hw _ (List.mem_of_getElem? (i := 37) rfl))) Via.refl e6 FD_v6 EL_v6 (Or.inl (hw _ (List.mem_of_getElem? (i := 38) rfl))) (hw _ (List.mem_of_getElem? (i := 16) rfl)) (ty := (.array (.object "java/lang/Object"))) (by decide) rfl rfl (g := (mkF m 56 #[.val (.ref li), .val (.int (1 : Int32)), .val (.int (0 : Int32)), .unset] [(.ref b6), (.ref li), (.ref b6)])) rfl rfl (hb hby d63_56)
  refine Gl.st st7 ?_
  have Z0_v7 : n0 ≤ h7.size := Nat.le_trans Z0_v6 (Keep.of_wr W7).1
  have EL_v7 : Exa Z h7 li "java/util/ArrayList" := EL_v6.wr W7
  have FS_v7 : Fld Z h7 li "java/util/ArrayList" "size" "I" (.int (Int32.ofNat n)) := FS_v6.other W7 (Or.inr (slot_ne (Or.inl (hw _ (List.mem_of_getElem? (i := 62) rfl))) (Or.inl (hw _ (List.mem_of_getElem? (i := 38) rfl))) (by decide) (t := .int) (t' := (.array (.object "java/lang/Object"))) (by decide) (by decide)))
  have FM_v7 : Fld Z h7 li "java/util/AbstractList" "modCount" "I" (.int mc) := FM_v6.other W7 (Or.inr (slot_ne (Or.inl (hw _ (List.mem_of_getElem? (i := 35) rfl))) (Or.inl (hw _ (List.mem_of_getElem? (i := 38) rfl))) (by decide) (t := .int) (t' := (.array (.object "java/lang/Object"))) (by decide) (by decide)))
  have EE_v7 : Exa Z h7 ed "[Ljava/lang/Object;" := EE_v6.wr W7
  have VEl_v7 : Arv Z h7 ed ke (.object "java/lang/Object") (0 : Int32) vs .null := VEl_v6.other W7 (Ne.symm nle)
  have LE_v7 : own_El Z h7 vs := own_El_wr W7 LE_v6
  have f_K_v7 : Keep h0 h7 [li] := f_K_v6.wr W7 (Or.inl (List.mem_of_getElem? (i := 0) rfl))
  have O0_v7 : Old Z n0 h7 := O0_v6.wr W7 gi
  have f_S_java_util_ArrayList_DEFAULTCAPACITY_EMPTY_ELEMENTDATA_v7 : Sta Z h7 "java/util/ArrayList" "DEFAULTCAPACITY_EMPTY_ELEMENTDATA" "[Ljava/lang/Object;" (.ref dc) := f_S_java_util_ArrayList_DEFAULTCAPACITY_EMPTY_ELEMENTDATA_v6.wr W7
  have Z6x_v7 : Exa Z h7 b6 "[Ljava/lang/Object;" := Z6x.wr W7
  have V_b6_v7 : Arv Z h7 b6 k6 (.object "java/lang/Object") (10 : Int32) (List.replicate 10 .null) .null := V_b6.other W7 (Ne.symm ne_li_b6)
  have Fw7 : Fld Z h7 li "java/util/ArrayList" "elementData" "[Ljava/lang/Object;" (.ref b6) := FD_v6.same W7
  have N7 := Fr.snoc X7 N5 gi
  show Gl p e below P (T7.setTop (mkF m 59 #[.val (.ref li), .val (.int (1 : Int32)), .val (.int (0 : Int32)), .unset] [(.ref b6)]))
  obtain ⟨fs, hr, hrun, hended, hW, hsame⟩ := X7.leave (v := some (.ref b6)) (fun h => by rw [Bd.returns] at h; cases h)
  refine ⟨_, _, retOut X7 hx Bd.returns rfl (Or.inr (Or.inr (Or.inr (Or.inr ⟨rfl, rfl, rfl⟩)))) (hb hby d63_59) hr, hrun, hended, hPost _ _ ⟨_, _, rfl, ?_, ⟨_, rfl⟩, hW, hsame.mono (by decide) (by decide)⟩⟩
  show Q660 Z li ed ke cap n vs mc dc mir h0 n0 _ T7.heap _
  rw [e7]
  exact ⟨_, _, _, rfl, N7, f_K_v7, ⟨EL_v7, Fw7, FS_v7, FM_v7, Z6x_v7, V_b6_v7, own_El_rep 10, List.length_replicate .., by omega, Or.inr ⟨by decide, g_b6, O6⟩⟩, sz_b6⟩
theorem pn_670 : plainName "java/util/ArrayList" = true := by first | (simp [plainName, overriddenIn]; done) | decide +kernel
theorem ef_670 (m : MethodId) (x0 : Addr) (x1 : Int32) : entryFrame m #[(.ref x0), (.int x1)] 4 = mkF m 0 #[.val (.ref x0), .val (.int x1), .unset, .unset] [] := by first | (simp [entryFrame, mkF, argsToLocals, Value.category]; done) | rfl
def Q670 (Z : State) (li : Addr) (ed : Addr) (ke : ClassId) (cap : Nat) (n : Nat) (vs : List Value) (mc : Int32) (dc : Addr) (mir : Addr) (h0 : Heap) (n0 : Nat) (v : Option Value) (h : Heap) (L : List Loc) : Prop := ∃ ed2 ke2 vs2, v = some (.ref ed2) ∧ Fr n0 L ∧ Keep h0 h [li] ∧ own_Ls Z n0 dc h li ed2 ke2 15 n vs2 mc ∧ h0.size ≤ ed2
set_option maxRecDepth 65536 in
set_option maxHeartbeats 40000000 in
theorem rm670 (l : Launch) (Z : State) (a0 : Array Value) (hw : ∀ d ∈ tables_1, d.before a0 Z = true) (ws : List Jvm.Cond) (li : Addr) (ed : Addr) (ke : ClassId) (cap : Nat) (n : Nat) (vs : List Value) (mc : Int32) (dc : Addr) (mir : Addr) (h0 : Heap) (n0 : Nat) (Z0 : n0 ≤ h0.size) (HL : own_Ls Z n0 dc h0 li ed ke cap n vs mc) (hcap : cap = 10) (hn : n = 10) (gi : n0 ≤ li) (O0 : Old Z n0 h0) (SD : Sta Z Z.heap "java/util/ArrayList" "DEFAULTCAPACITY_EMPTY_ELEMENTDATA" "[Ljava/lang/Object;" (.ref dc)) (MI : Mir Z "[Ljava/lang/Object;" mir) :
    MetFree l (⟨"java/util/ArrayList", "grow", "(I)[Ljava/lang/Object;"⟩ : MethodName) (head1 (Jvm.Cond.code (⟨"java/util/ArrayList", "grow", "(I)[Ljava/lang/Object;"⟩ : MethodName) jdk_38_method_6_code 4 (some (.array (.object "java/lang/Object"))) :: ws) ({ frames := 3, cells := 1, slots := 15, locals := 96 } : Room)) (fun a U => a = #[(.ref li), (.int (11 : Int32))] ∧ Z.Warmed39 U.vm ∧ U.heap = h0) (fun _ _ _ _ _ => True) (fun _ U o U' => ∃ v L, o = .returned v ∧ Q670 Z li ed ke cap n vs mc dc mir h0 n0 v U'.heap L ∧ FrameEnd U o U' L ({ frames := 3, cells := 1, slots := 15, locals := 96 } : Room).cells ({ frames := 3, cells := 1, slots := 15, locals := 96 } : Room).slots) := by
  refine MetFree.of_bodySF (plainFor_of_name pn_670) hisR ?_
  intro p e s m args below meth c s₁ Bd hml0 hP hK
  obtain ⟨rfl, hZ, hh⟩ := hP
  have hx := Bd.exec
  have hby := Bd.bytes
  have hml : c.maxLocals = 4 := hml0
  have hown : s.vm.findClass "java/util/ArrayList" = some m.cls := findClass_of_methodNamed Bd.named
  have hnm := (name_of_methodNamed Bd.named Bd.method).1
  have X0 : Stand p l e ({ frames := 3, cells := 1, slots := 15, locals := 96 } : Room) s m #[(.ref li), (.int (11 : Int32))] below meth c s₁ [] 0 0 := Stand.of_body Bd
  have e0 : s₁.heap = h0 := by rw [← hh, Bd.state]; rfl
  have N0 := Fr.nil n0
  refine Gl.gen fun P hPost => ?_
  refine Gl.st (fun _ k => castTop (ef_670 m li (11 : Int32) ) k) ?_
  show Gl p e below P (s₁.setTop (mkF m 0 #[.val (.ref li), .val (.int (11 : Int32)), .unset, .unset] []))
  obtain ⟨EL, FD, FS, FM, EE, VE, LE, hvl, hnc, hcp⟩ := id HL
  have nle : li ≠ ed := EL.neArv VE (hw _ (List.mem_of_getElem? (i := 16) rfl))
  have VEl : Arv Z h0 ed ke (.object "java/lang/Object") (10 : Int32) vs .null := by have q := VE; rw [hcap] at q; exact q
  refine Gl.st (fun _ k => XS.aloadN X0.here hx rfl (hb hby d63_0) rfl rfl k) ?_
  show Gl p e below P (s₁.setTop (mkF m 1 #[.val (.ref li), .val (.int (11 : Int32)), .unset, .unset] [(.ref li)]))
  obtain ⟨T1, X1, e1, st1⟩ := getF X0 hx hZ hown (host := "") (Or.inl (hw _ (List.mem_of_getElem? (i := 37) rfl))) Via.refl e0 FD (g := (mkF m 1 #[.val (.ref li), .val (.int (11 : Int32)), .unset, .unset] [(.ref li)])) rfl rfl (hb hby d63_1)
  refine Gl.st st1 ?_
  show Gl p e below P (T1.setTop (mkF m 4 #[.val (.ref li), .val (.int (11 : Int32)), .unset, .unset] [(.ref ed)]))
  obtain ⟨c2, Ar2, q2, S2, M2, H2, U2⟩ := id VEl
  refine Gl.st (X1.arraylength hx (by rw [e1]; exact Ar2.1) (State.isArrayOf_alike hZ.alike Ar2.2.1) (g := (mkF m 4 #[.val (.ref li), .val (.int (11 : Int32)), .unset, .unset] [(.ref ed)])) rfl rfl (hb hby d63_4)) ?_
  rw [len_of S2 M2]
  show Gl p e below P (T1.setTop (mkF m 5 #[.val (.ref li), .val (.int (11 : Int32)), .unset, .unset] [(.int (10 : Int32))]))
  refine Gl.st (fun _ k => XS.istoreN X1.here hx rfl (hb hby d63_5) rfl (l' := #[.val (.ref li), .val (.int (11 : Int32)), .val (.int (10 : Int32)), .unset]) rfl k) ?_
  show Gl p e below P (T1.setTop (mkF m 6 #[.val (.ref li), .val (.int (11 : Int32)), .val (.int (10 : Int32)), .unset] []))
  refine Gl.st (fun _ k => XS.iloadN X1.here hx rfl (hb hby d63_6) rfl k) ?_
  show Gl p e below P (T1.setTop (mkF m 7 #[.val (.ref li), .val (.int (11 : Int32)), .val (.int (10 : Int32)), .unset] [(.int (10 : Int32))]))
  refine Gl.st (fun _ k => XS.ifYes X1.here hx rfl (pc0 := 7) (pc' := 20) rfl (hb hby d63_7) rfl ((if0 _ _).trans (tlt (by decide : (0 : Int32) < (10 : Int32))).2.2.1) (by decide) (by decide) k) ?_
  show Gl p e below P (T1.setTop (mkF m 20 #[.val (.ref li), .val (.int (11 : Int32)), .val (.int (10 : Int32)), .unset] []))
  refine Gl.st (fun _ k => XS.iloadN X1.here hx rfl (hb hby d63_20) rfl k) ?_
  show Gl p e below P (T1.setTop (mkF m 21 #[.val (.ref li), .val (.int (11 : Int32)), .val (.int (10 : Int32)), .unset] [(.int (10 : Int32))]))
  refine Gl.st (fun _ k => XS.iloadN X1.here hx rfl (hb hby d63_21) rfl k) ?_
  show Gl p e below P (T1.setTop (mkF m 22 #[.val (.ref li), .val (.int (11 : Int32)), .val (.int (10 : Int32)), .unset] [(.int (11 : Int32)), (.int (10 : Int32))]))
  refine Gl.st (fun _ k => XS.iloadN X1.here hx rfl (hb hby d63_22) rfl k) ?_
  show Gl p e below P (T1.setTop (mkF m 23 #[.val (.ref li), .val (.int (11 : Int32)), .val (.int (10 : Int32)), .unset] [(.int (10 : Int32)), (.int (11 : Int32)), (.int (10 : Int32))]))
  refine Gl.st (fun _ k => XS.isub X1.here hx rfl (hb hby d63_23) rfl k) ?_
  show Gl p e below P (T1.setTop (mkF m 24 #[.val (.ref li), .val (.int (11 : Int32)), .val (.int (10 : Int32)), .unset] [(.int ((11 : Int32) - (10 : Int32))), (.int (10 : Int32))]))
  rw [show ((11 : Int32) - (10 : Int32)) = (1 : Int32) from by decide]
  show Gl p e below P (T1.setTop (mkF m 24 #[.val (.ref li), .val (.int (11 : Int32)), .val (.int (10 : Int32)), .unset] [(.int (1 : Int32)), (.int (10 : Int32))]))
  refine Gl.st (fun _ k => XS.iloadN X1.here hx rfl (hb hby d63_24) rfl k) ?_
  show Gl p e below P (T1.setTop (mkF m 25 #[.val (.ref li), .val (.int (11 : Int32)), .val (.int (10 : Int32)), .unset] [(.int (10 : Int32)), (.int (1 : Int32)), (.int (10 : Int32))]))
  refine Gl.st (fun _ k => XS.iconst X1.here hx rfl (hb hby d63_25) k) ?_
  show Gl p e below P (T1.setTop (mkF m 26 #[.val (.ref li), .val (.int (11 : Int32)), .val (.int (10 : Int32)), .unset] [(.int (1 : Int32)), (.int (10 : Int32)), (.int (1 : Int32)), (.int (10 : Int32))]))
  refine Gl.st (fun _ k => XS.ishr X1.here hx rfl (hb hby d63_26) rfl k) ?_
  show Gl p e below P (T1.setTop (mkF m 27 #[.val (.ref li), .val (.int (11 : Int32)), .val (.int (10 : Int32)), .unset] [(.int ((10 : Int32) >>> ((1 : Int32) &&& 31))), (.int (1 : Int32)), (.int (10 : Int32))]))
  rw [show ((10 : Int32) >>> ((1 : Int32) &&& 31)) = (5 : Int32) from by decide]
  show Gl p e below P (T1.setTop (mkF m 27 #[.val (.ref li), .val (.int (11 : Int32)), .val (.int (10 : Int32)), .unset] [(.int (5 : Int32)), (.int (1 : Int32)), (.int (10 : Int32))]))
  obtain ⟨_, _, ⟨T3, L3, k3, n3⟩, -, X3, ⟨Lc3, hQ3, l3, y3, z3⟩, st3⟩ := Jvm.LawKit.callS X1 hx (y := (⟨"jdk/internal/util/ArraysSupport", "newLength", "(III)I"⟩ : MethodName)) hown (mvT hZ (hw _ (List.mem_of_getElem? (i := 150) rfl))) (mvT hZ (hw _ (List.mem_of_getElem? (i := 151) rfl))) (mvT hZ (hw _ (List.mem_of_getElem? (i := 152) rfl))) (mvT hZ (hw _ (List.mem_of_getElem? (i := 153) rfl))) (by decide) (backOf (W := 0) (rm610 l Z a0 hw [] 0 h0 n0 Z0 ) hZ (hw _ (List.mem_of_getElem? (i := 153) rfl)) (hw _ (List.mem_of_getElem? (i := 152) rfl)) (by decide) (by decide)) (g := (mkF m 27 #[.val (.ref li), .val (.int (11 : Int32)), .val (.int (10 : Int32)), .unset] [(.int (5 : Int32)), (.int (1 : Int32)), (.int (10 : Int32))])) rfl (by rw [hml]; rfl) (argsL := [(.int (10 : Int32)), (.int (1 : Int32)), (.int (5 : Int32))]) (rest := []) (lenOf pd_5 rfl) rfl (by show 2 * 0 + _ ≤ _; exact Nat.le_of_eq rfl) (hb hby d63_27) (fun _ _ => ⟨rfl, e1, (by decide : 0 + 0 ≤ _), (by decide : 0 + 0 ≤ _)⟩)
  dsimp only [Pt.U, Pt.locs, Pt.cells, Pt.slots] at X3 l3 y3 z3 st3 hQ3
  subst l3 y3 z3
  obtain ⟨rfl, N3q, e3⟩ := hQ3
  have N3 := Fr.app N0 N3q
  refine Gl.st st3 ?_
  show Gl p e below P (T3.setTop (mkF m 30 #[.val (.ref li), .val (.int (11 : Int32)), .val (.int (10 : Int32)), .unset] [(.int (15 : Int32))]))
  refine Gl.st (fun _ k => XS.istoreN X3.here hx rfl (hb hby d63_30) rfl (l' := #[.val (.ref li), .val (.int (11 : Int32)), .val (.int (10 : Int32)), .val (.int (15 : Int32))]) rfl k) ?_
  show Gl p e below P (T3.setTop (mkF m 31 #[.val (.ref li), .val (.int (11 : Int32)), .val (.int (10 : Int32)), .val (.int (15 : Int32))] []))
  refine Gl.st (fun _ k => XS.aloadN X3.here hx rfl (hb hby d63_31) rfl rfl k) ?_
  show Gl p e below P (T3.setTop (mkF m 32 #[.val (.ref li), .val (.int (11 : Int32)), .val (.int (10 : Int32)), .val (.int (15 : Int32))] [(.ref li)]))
  refine Gl.st (fun _ k => XS.aloadN X3.here hx rfl (hb hby d63_32) rfl rfl k) ?_
  show Gl p e below P (T3.setTop (mkF m 33 #[.val (.ref li), .val (.int (11 : Int32)), .val (.int (10 : Int32)), .val (.int (15 : Int32))] [(.ref li), (.ref li)]))
  obtain ⟨T4, X4, e4, st4⟩ := getF X3 hx hZ hown (host := "") (Or.inl (hw _ (List.mem_of_getElem? (i := 37) rfl))) Via.refl e3 FD (g := (mkF m 33 #[.val (.ref li), .val (.int (11 : Int32)), .val (.int (10 : Int32)), .val (.int (15 : Int32))] [(.ref li), (.ref li)])) rfl rfl (hb hby d63_33)
  refine Gl.st st4 ?_
  show Gl p e below P (T4.setTop (mkF m 36 #[.val (.ref li), .val (.int (11 : Int32)), .val (.int (10 : Int32)), .val (.int (15 : Int32))] [(.ref ed), (.ref li)]))
  refine Gl.st (fun _ k => XS.iloadN X4.here hx rfl (hb hby d63_36) rfl k) ?_
  show Gl p e below P (T4.setTop (mkF m 37 #[.val (.ref li), .val (.int (11 : Int32)), .val (.int (10 : Int32)), .val (.int (15 : Int32))] [(.int (15 : Int32)), (.ref ed), (.ref li)]))
  obtain ⟨_, _, ⟨T5, L5, k5, n5⟩, -, X5, ⟨Lc5, hQ5, l5, y5, z5⟩, st5⟩ := Jvm.LawKit.callS X4 hx (y := (⟨"java/util/Arrays", "copyOf", "([Ljava/lang/Object;I)[Ljava/lang/Object;"⟩ : MethodName)) hown (mvT hZ (hw _ (List.mem_of_getElem? (i := 156) rfl))) (mvT hZ (hw _ (List.mem_of_getElem? (i := 157) rfl))) (mvT hZ (hw _ (List.mem_of_getElem? (i := 158) rfl))) (mvT hZ (hw _ (List.mem_of_getElem? (i := 159) rfl))) (by decide) (backOf (W := 1) (rm650 l Z a0 hw [] ed ke vs mir h0 n0 Z0 VEl EE LE MI) hZ (hw _ (List.mem_of_getElem? (i := 159) rfl)) (hw _ (List.mem_of_getElem? (i := 158) rfl)) (by decide) (by decide)) (g := (mkF m 37 #[.val (.ref li), .val (.int (11 : Int32)), .val (.int (10 : Int32)), .val (.int (15 : Int32))] [(.int (15 : Int32)), (.ref ed), (.ref li)])) rfl (by rw [hml]; rfl) (argsL := [(.ref ed), (.int (15 : Int32))]) (rest := [(.ref li)]) (lenOf pd_6 rfl) rfl (by show 2 * 0 + _ ≤ _; exact Nat.le_of_eq rfl) (hb hby d63_37) (fun _ _ => ⟨rfl, e4, (by decide : 0 + 1 ≤ _), (by decide : 0 + 15 ≤ _)⟩)
  dsimp only [Pt.U, Pt.locs, Pt.cells, Pt.slots] at X5 l5 y5 z5 st5 hQ5
  subst l5 y5 z5
  obtain ⟨ed2, ke2, vs2, rfl, N5q, K5, EE5, VN5, LN5, hl5, OV5, gn5⟩ := hQ5
  have ne_li_ed2 : li ≠ ed2 := Nat.ne_of_lt (Nat.lt_of_lt_of_le EL.lt gn5)
  have g_ed2 : n0 ≤ ed2 := Nat.le_trans Z0 gn5
  have N5 := Fr.app N3 N5q
  have Z0_v5 : n0 ≤ T5.heap.size := Nat.le_trans Z0 K5.1
  have EL_v5 : Exa Z T5.heap li "java/util/ArrayList" := EL.keep K5
  have FD_v5 : Fld Z T5.heap li "java/util/ArrayList" "elementData" "[Ljava/lang/Object;" (.ref ed) := FD.keep K5 nin0
  have FS_v5 : Fld Z T5.heap li "java/util/ArrayList" "size" "I" (.int (Int32.ofNat n)) := FS.keep K5 nin0
  have FM_v5 : Fld Z T5.heap li "java/util/AbstractList" "modCount" "I" (.int mc) := FM.keep K5 nin0
  have EE_v5 : Exa Z T5.heap ed "[Ljava/lang/Object;" := EE.keep K5
  have VEl_v5 : Arv Z T5.heap ed ke (.object "java/lang/Object") (10 : Int32) vs .null := VEl.keep K5 nin0
  have LE_v5 : own_El Z T5.heap vs := own_El_keep K5 LE
  have f_K_v5 : Keep h0 T5.heap [li] := (Keep.refl h0 [li]).trans K5 all0
  have O0_v5 : Old Z n0 T5.heap := O0.keep K5 all0
  have f_S_java_util_ArrayList_DEFAULTCAPACITY_EMPTY_ELEMENTDATA_v5 : Sta Z T5.heap "java/util/ArrayList" "DEFAULTCAPACITY_EMPTY_ELEMENTDATA" "[Ljava/lang/Object;" (.ref dc) := SD.ext O0_v5.2
  refine Gl.st st5 ?_
  show Gl p e below P (T5.setTop (mkF m 40 #[.val (.ref li), .val (.int (11 : Int32)), .val (.int (10 : Int32)), .val (.int (15 : Int32))] [(.ref ed2), (.ref li)]))
  refine Gl.st (fun _ k => XS.dupX1 X5.here hx rfl (hb hby d63_40) rfl rfl rfl k) ?_
  show Gl p e below P (T5.setTop (mkF m 41 #[.val (.ref li), .val (.int (11 : Int32)), .val (.int (10 : Int32)), .val (.int (15 : Int32))] [(.ref ed2), (.ref li), (.ref ed2)]))
  obtain ⟨T6, h6, X6, e6, W6, st6⟩ := putF X5 hx hZ hown (host := "") (Or.inl (hw _ (List.mem_of_getElem? (i := 37) rfl))) Via.refl rfl FD_v5 EL_v5 (Or.inl (hw _ (List.mem_of_getElem? (i := 38) rfl))) (hw _ (List.mem_of_getElem? (i := 16) rfl)) (ty := (.array (.object "java/lang/Object"))) (by decide) rfl rfl (g := (mkF m 41 #[.val (.ref li), .val (.int (11 : Int32)), .val (.int (10 : Int32)), .val (.int (15 : Int32))] [(.ref ed2), (.ref li), (.ref ed2)])) rfl rfl (hb hby d63_41)
  refine Gl.st st6 ?_
  have Z0_v6 : n0 ≤ h6.size := Nat.le_trans Z0_v5 (Keep.of_wr W6).1
  have EL_v6 : Exa Z h6 li "java/util/ArrayList" := EL_v5.wr W6
  have FS_v6 : Fld Z h6 li "java/util/ArrayList" "size" "I" (.int (Int32.ofNat n)) := FS_v5.other W6 (Or.inr (slot_ne (Or.inl (hw _ (List.mem_of_getElem? (i := 62) rfl))) (Or.inl (hw _ (List.mem_of_getElem? (i := 38) rfl))) (by decide) (t := .int) (t' := (.array (.object "java/lang/Object"))) (by decide) (by decide)))
  have FM_v6 : Fld Z h6 li "java/util/AbstractList" "modCount" "I" (.int mc) := FM_v5.other W6 (Or.inr (slot_ne (Or.inl (hw _ (List.mem_of_getElem? (i := 35) rfl))) (Or.inl (hw _ (List.mem_of_getElem? (i := 38) rfl))) (by decide) (t := .int) (t' := (.array (.object "java/lang/Object"))) (by decide) (by decide)))
  have EE_v6 : Exa Z h6 ed "[Ljava/lang/Object;" := EE_v5.wr W6
  have VEl_v6 : Arv Z h6 ed ke (.object "java/lang/Object") (10 : Int32) vs .null := VEl_v5.other W6 (Ne.symm nle)
  have LE_v6 : own_El Z h6 vs := own_El_wr W6 LE_v5
  have f_K_v6 : Keep h0 h6 [li] := f_K_v5.wr W6 (Or.inl (List.mem_of_getElem? (i := 0) rfl))
  have O0_v6 : Old Z n0 h6 := O0_v5.wr W6 gi
  have f_S_java_util_ArrayList_DEFAULTCAPACITY_EMPTY_ELEMENTDATA_v6 : Sta Z h6 "java/util/ArrayList" "DEFAULTCAPACITY_EMPTY_ELEMENTDATA" "[Ljava/lang/Object;" (.ref dc) := f_S_java_util_ArrayList_DEFAULTCAPACITY_EMPTY_ELEMENTDATA_v5.wr W6
  have EE5_v6 : Exa Z h6 ed2 "[Ljava/lang/Object;" := EE5.wr W6
  have VN5_v6 : Arv Z h6 ed2 ke2 (.object "java/lang/Object") (15 : Int32) vs2 .null := VN5.other W6 (Ne.symm ne_li_ed2)
  have LN5_v6 : own_El Z h6 vs2 := own_El_wr W6 LN5
  have Fw6 : Fld Z h6 li "java/util/ArrayList" "elementData" "[Ljava/lang/Object;" (.ref ed2) := FD_v5.same W6
  have N6 := Fr.snoc X6 N5 gi
  show Gl p e below P (T6.setTop (mkF m 44 #[.val (.ref li), .val (.int (11 : Int32)), .val (.int (10 : Int32)), .val (.int (15 : Int32))] [(.ref ed2)]))
  obtain ⟨fs, hr, hrun, hended, hW, hsame⟩ := X6.leave (v := some (.ref ed2)) (fun h => by rw [Bd.returns] at h; cases h)
  refine ⟨_, _, retOut X6 hx Bd.returns rfl (Or.inr (Or.inr (Or.inr (Or.inr ⟨rfl, rfl, rfl⟩)))) (hb hby d63_44) hr, hrun, hended, hPost _ _ ⟨_, _, rfl, ?_, ⟨_, rfl⟩, hW, hsame.mono (by decide) (by decide)⟩⟩
  show Q670 Z li ed ke cap n vs mc dc mir h0 n0 _ T6.heap _
  rw [e6]
  exact ⟨_, _, _, rfl, N6, f_K_v6, ⟨EL_v6, Fw6, FS_v6, FM_v6, EE5_v6, VN5_v6, LN5_v6, hl5, by omega, Or.inr ⟨by decide, g_ed2, OV5⟩⟩, gn5⟩
theorem pn_675 : plainName "java/util/ArrayList" = true := by first | (simp [plainName, overriddenIn]; done) | decide +kernel
theorem ef_675 (m : MethodId) (x0 : Addr) (x1 : Int32) : entryFrame m #[(.ref x0), (.int x1)] 4 = mkF m 0 #[.val (.ref x0), .val (.int x1), .unset, .unset] [] := by first | (simp [entryFrame, mkF, argsToLocals, Value.category]; done) | rfl
def Q675 (Z : State) (li : Addr) (ed : Addr) (ke : ClassId) (cap : Nat) (n : Nat) (vs : List Value) (mc : Int32) (dc : Addr) (mir : Addr) (h0 : Heap) (n0 : Nat) (v : Option Value) (h : Heap) (L : List Loc) : Prop := ∃ ed2 ke2 vs2, v = some (.ref ed2) ∧ Fr n0 L ∧ Keep h0 h [li] ∧ own_Ls Z n0 dc h li ed2 ke2 22 n vs2 mc ∧ h0.size ≤ ed2
set_option maxRecDepth 65536 in
set_option maxHeartbeats 40000000 in
theorem rm675 (l : Launch) (Z : State) (a0 : Array Value) (hw : ∀ d ∈ tables_1, d.before a0 Z = true) (ws : List Jvm.Cond) (li : Addr) (ed : Addr) (ke : ClassId) (cap : Nat) (n : Nat) (vs : List Value) (mc : Int32) (dc : Addr) (mir : Addr) (h0 : Heap) (n0 : Nat) (Z0 : n0 ≤ h0.size) (HL : own_Ls Z n0 dc h0 li ed ke cap n vs mc) (hcap : cap = 15) (hn : n = 15) (gi : n0 ≤ li) (O0 : Old Z n0 h0) (SD : Sta Z Z.heap "java/util/ArrayList" "DEFAULTCAPACITY_EMPTY_ELEMENTDATA" "[Ljava/lang/Object;" (.ref dc)) (MI : Mir Z "[Ljava/lang/Object;" mir) :
    MetFree l (⟨"java/util/ArrayList", "grow", "(I)[Ljava/lang/Object;"⟩ : MethodName) (head1 (Jvm.Cond.code (⟨"java/util/ArrayList", "grow", "(I)[Ljava/lang/Object;"⟩ : MethodName) jdk_38_method_6_code 4 (some (.array (.object "java/lang/Object"))) :: ws) ({ frames := 3, cells := 1, slots := 22, locals := 96 } : Room)) (fun a U => a = #[(.ref li), (.int (16 : Int32))] ∧ Z.Warmed39 U.vm ∧ U.heap = h0) (fun _ _ _ _ _ => True) (fun _ U o U' => ∃ v L, o = .returned v ∧ Q675 Z li ed ke cap n vs mc dc mir h0 n0 v U'.heap L ∧ FrameEnd U o U' L ({ frames := 3, cells := 1, slots := 22, locals := 96 } : Room).cells ({ frames := 3, cells := 1, slots := 22, locals := 96 } : Room).slots) := by
  refine MetFree.of_bodySF (plainFor_of_name pn_675) hisR ?_
  intro p e s m args below meth c s₁ Bd hml0 hP hK
  obtain ⟨rfl, hZ, hh⟩ := hP
  have hx := Bd.exec
  have hby := Bd.bytes
  have hml : c.maxLocals = 4 := hml0
  have hown : s.vm.findClass "java/util/ArrayList" = some m.cls := findClass_of_methodNamed Bd.named
  have hnm := (name_of_methodNamed Bd.named Bd.method).1
  have X0 : Stand p l e ({ frames := 3, cells := 1, slots := 22, locals := 96 } : Room) s m #[(.ref li), (.int (16 : Int32))] below meth c s₁ [] 0 0 := Stand.of_body Bd
  have e0 : s₁.heap = h0 := by rw [← hh, Bd.state]; rfl
  have N0 := Fr.nil n0
  refine Gl.gen fun P hPost => ?_
  refine Gl.st (fun _ k => castTop (ef_675 m li (16 : Int32) ) k) ?_
  show Gl p e below P (s₁.setTop (mkF m 0 #[.val (.ref li), .val (.int (16 : Int32)), .unset, .unset] []))
  obtain ⟨EL, FD, FS, FM, EE, VE, LE, hvl, hnc, hcp⟩ := id HL
  have nle : li ≠ ed := EL.neArv VE (hw _ (List.mem_of_getElem? (i := 16) rfl))
  have VEl : Arv Z h0 ed ke (.object "java/lang/Object") (15 : Int32) vs .null := by have q := VE; rw [hcap] at q; exact q
  refine Gl.st (fun _ k => XS.aloadN X0.here hx rfl (hb hby d63_0) rfl rfl k) ?_
  show Gl p e below P (s₁.setTop (mkF m 1 #[.val (.ref li), .val (.int (16 : Int32)), .unset, .unset] [(.ref li)]))
  obtain ⟨T1, X1, e1, st1⟩ := getF X0 hx hZ hown (host := "") (Or.inl (hw _ (List.mem_of_getElem? (i := 37) rfl))) Via.refl e0 FD (g := (mkF m 1 #[.val (.ref li), .val (.int (16 : Int32)), .unset, .unset] [(.ref li)])) rfl rfl (hb hby d63_1)
  refine Gl.st st1 ?_
  show Gl p e below P (T1.setTop (mkF m 4 #[.val (.ref li), .val (.int (16 : Int32)), .unset, .unset] [(.ref ed)]))
  obtain ⟨c2, Ar2, q2, S2, M2, H2, U2⟩ := id VEl
  refine Gl.st (X1.arraylength hx (by rw [e1]; exact Ar2.1) (State.isArrayOf_alike hZ.alike Ar2.2.1) (g := (mkF m 4 #[.val (.ref li), .val (.int (16 : Int32)), .unset, .unset] [(.ref ed)])) rfl rfl (hb hby d63_4)) ?_
  rw [len_of S2 M2]
  show Gl p e below P (T1.setTop (mkF m 5 #[.val (.ref li), .val (.int (16 : Int32)), .unset, .unset] [(.int (15 : Int32))]))
  refine Gl.st (fun _ k => XS.istoreN X1.here hx rfl (hb hby d63_5) rfl (l' := #[.val (.ref li), .val (.int (16 : Int32)), .val (.int (15 : Int32)), .unset]) rfl k) ?_
  show Gl p e below P (T1.setTop (mkF m 6 #[.val (.ref li), .val (.int (16 : Int32)), .val (.int (15 : Int32)), .unset] []))
  refine Gl.st (fun _ k => XS.iloadN X1.here hx rfl (hb hby d63_6) rfl k) ?_
  show Gl p e below P (T1.setTop (mkF m 7 #[.val (.ref li), .val (.int (16 : Int32)), .val (.int (15 : Int32)), .unset] [(.int (15 : Int32))]))
  refine Gl.st (fun _ k => XS.ifYes X1.here hx rfl (pc0 := 7) (pc' := 20) rfl (hb hby d63_7) rfl ((if0 _ _).trans (tlt (by decide : (0 : Int32) < (15 : Int32))).2.2.1) (by decide) (by decide) k) ?_
  show Gl p e below P (T1.setTop (mkF m 20 #[.val (.ref li), .val (.int (16 : Int32)), .val (.int (15 : Int32)), .unset] []))
  refine Gl.st (fun _ k => XS.iloadN X1.here hx rfl (hb hby d63_20) rfl k) ?_
  show Gl p e below P (T1.setTop (mkF m 21 #[.val (.ref li), .val (.int (16 : Int32)), .val (.int (15 : Int32)), .unset] [(.int (15 : Int32))]))
  refine Gl.st (fun _ k => XS.iloadN X1.here hx rfl (hb hby d63_21) rfl k) ?_
  show Gl p e below P (T1.setTop (mkF m 22 #[.val (.ref li), .val (.int (16 : Int32)), .val (.int (15 : Int32)), .unset] [(.int (16 : Int32)), (.int (15 : Int32))]))
  refine Gl.st (fun _ k => XS.iloadN X1.here hx rfl (hb hby d63_22) rfl k) ?_
  show Gl p e below P (T1.setTop (mkF m 23 #[.val (.ref li), .val (.int (16 : Int32)), .val (.int (15 : Int32)), .unset] [(.int (15 : Int32)), (.int (16 : Int32)), (.int (15 : Int32))]))
  refine Gl.st (fun _ k => XS.isub X1.here hx rfl (hb hby d63_23) rfl k) ?_
  show Gl p e below P (T1.setTop (mkF m 24 #[.val (.ref li), .val (.int (16 : Int32)), .val (.int (15 : Int32)), .unset] [(.int ((16 : Int32) - (15 : Int32))), (.int (15 : Int32))]))
  rw [show ((16 : Int32) - (15 : Int32)) = (1 : Int32) from by decide]
  show Gl p e below P (T1.setTop (mkF m 24 #[.val (.ref li), .val (.int (16 : Int32)), .val (.int (15 : Int32)), .unset] [(.int (1 : Int32)), (.int (15 : Int32))]))
  refine Gl.st (fun _ k => XS.iloadN X1.here hx rfl (hb hby d63_24) rfl k) ?_
  show Gl p e below P (T1.setTop (mkF m 25 #[.val (.ref li), .val (.int (16 : Int32)), .val (.int (15 : Int32)), .unset] [(.int (15 : Int32)), (.int (1 : Int32)), (.int (15 : Int32))]))
  refine Gl.st (fun _ k => XS.iconst X1.here hx rfl (hb hby d63_25) k) ?_
  show Gl p e below P (T1.setTop (mkF m 26 #[.val (.ref li), .val (.int (16 : Int32)), .val (.int (15 : Int32)), .unset] [(.int (1 : Int32)), (.int (15 : Int32)), (.int (1 : Int32)), (.int (15 : Int32))]))
  refine Gl.st (fun _ k => XS.ishr X1.here hx rfl (hb hby d63_26) rfl k) ?_
  show Gl p e below P (T1.setTop (mkF m 27 #[.val (.ref li), .val (.int (16 : Int32)), .val (.int (15 : Int32)), .unset] [(.int ((15 : Int32) >>> ((1 : Int32) &&& 31))), (.int (1 : Int32)), (.int (15 : Int32))]))
  rw [show ((15 : Int32) >>> ((1 : Int32) &&& 31)) = (7 : Int32) from by decide]
  show Gl p e below P (T1.setTop (mkF m 27 #[.val (.ref li), .val (.int (16 : Int32)), .val (.int (15 : Int32)), .unset] [(.int (7 : Int32)), (.int (1 : Int32)), (.int (15 : Int32))]))
  obtain ⟨_, _, ⟨T3, L3, k3, n3⟩, -, X3, ⟨Lc3, hQ3, l3, y3, z3⟩, st3⟩ := Jvm.LawKit.callS X1 hx (y := (⟨"jdk/internal/util/ArraysSupport", "newLength", "(III)I"⟩ : MethodName)) hown (mvT hZ (hw _ (List.mem_of_getElem? (i := 150) rfl))) (mvT hZ (hw _ (List.mem_of_getElem? (i := 151) rfl))) (mvT hZ (hw _ (List.mem_of_getElem? (i := 152) rfl))) (mvT hZ (hw _ (List.mem_of_getElem? (i := 153) rfl))) (by decide) (backOf (W := 0) (rm615 l Z a0 hw [] 0 h0 n0 Z0 ) hZ (hw _ (List.mem_of_getElem? (i := 153) rfl)) (hw _ (List.mem_of_getElem? (i := 152) rfl)) (by decide) (by decide)) (g := (mkF m 27 #[.val (.ref li), .val (.int (16 : Int32)), .val (.int (15 : Int32)), .unset] [(.int (7 : Int32)), (.int (1 : Int32)), (.int (15 : Int32))])) rfl (by rw [hml]; rfl) (argsL := [(.int (15 : Int32)), (.int (1 : Int32)), (.int (7 : Int32))]) (rest := []) (lenOf pd_5 rfl) rfl (by show 2 * 0 + _ ≤ _; exact Nat.le_of_eq rfl) (hb hby d63_27) (fun _ _ => ⟨rfl, e1, (by decide : 0 + 0 ≤ _), (by decide : 0 + 0 ≤ _)⟩)
  dsimp only [Pt.U, Pt.locs, Pt.cells, Pt.slots] at X3 l3 y3 z3 st3 hQ3
  subst l3 y3 z3
  obtain ⟨rfl, N3q, e3⟩ := hQ3
  have N3 := Fr.app N0 N3q
  refine Gl.st st3 ?_
  show Gl p e below P (T3.setTop (mkF m 30 #[.val (.ref li), .val (.int (16 : Int32)), .val (.int (15 : Int32)), .unset] [(.int (22 : Int32))]))
  refine Gl.st (fun _ k => XS.istoreN X3.here hx rfl (hb hby d63_30) rfl (l' := #[.val (.ref li), .val (.int (16 : Int32)), .val (.int (15 : Int32)), .val (.int (22 : Int32))]) rfl k) ?_
  show Gl p e below P (T3.setTop (mkF m 31 #[.val (.ref li), .val (.int (16 : Int32)), .val (.int (15 : Int32)), .val (.int (22 : Int32))] []))
  refine Gl.st (fun _ k => XS.aloadN X3.here hx rfl (hb hby d63_31) rfl rfl k) ?_
  show Gl p e below P (T3.setTop (mkF m 32 #[.val (.ref li), .val (.int (16 : Int32)), .val (.int (15 : Int32)), .val (.int (22 : Int32))] [(.ref li)]))
  refine Gl.st (fun _ k => XS.aloadN X3.here hx rfl (hb hby d63_32) rfl rfl k) ?_
  show Gl p e below P (T3.setTop (mkF m 33 #[.val (.ref li), .val (.int (16 : Int32)), .val (.int (15 : Int32)), .val (.int (22 : Int32))] [(.ref li), (.ref li)]))
  obtain ⟨T4, X4, e4, st4⟩ := getF X3 hx hZ hown (host := "") (Or.inl (hw _ (List.mem_of_getElem? (i := 37) rfl))) Via.refl e3 FD (g := (mkF m 33 #[.val (.ref li), .val (.int (16 : Int32)), .val (.int (15 : Int32)), .val (.int (22 : Int32))] [(.ref li), (.ref li)])) rfl rfl (hb hby d63_33)
  refine Gl.st st4 ?_
  show Gl p e below P (T4.setTop (mkF m 36 #[.val (.ref li), .val (.int (16 : Int32)), .val (.int (15 : Int32)), .val (.int (22 : Int32))] [(.ref ed), (.ref li)]))
  refine Gl.st (fun _ k => XS.iloadN X4.here hx rfl (hb hby d63_36) rfl k) ?_
  show Gl p e below P (T4.setTop (mkF m 37 #[.val (.ref li), .val (.int (16 : Int32)), .val (.int (15 : Int32)), .val (.int (22 : Int32))] [(.int (22 : Int32)), (.ref ed), (.ref li)]))
  obtain ⟨_, _, ⟨T5, L5, k5, n5⟩, -, X5, ⟨Lc5, hQ5, l5, y5, z5⟩, st5⟩ := Jvm.LawKit.callS X4 hx (y := (⟨"java/util/Arrays", "copyOf", "([Ljava/lang/Object;I)[Ljava/lang/Object;"⟩ : MethodName)) hown (mvT hZ (hw _ (List.mem_of_getElem? (i := 156) rfl))) (mvT hZ (hw _ (List.mem_of_getElem? (i := 157) rfl))) (mvT hZ (hw _ (List.mem_of_getElem? (i := 158) rfl))) (mvT hZ (hw _ (List.mem_of_getElem? (i := 159) rfl))) (by decide) (backOf (W := 1) (rm655 l Z a0 hw [] ed ke vs mir h0 n0 Z0 VEl EE LE MI) hZ (hw _ (List.mem_of_getElem? (i := 159) rfl)) (hw _ (List.mem_of_getElem? (i := 158) rfl)) (by decide) (by decide)) (g := (mkF m 37 #[.val (.ref li), .val (.int (16 : Int32)), .val (.int (15 : Int32)), .val (.int (22 : Int32))] [(.int (22 : Int32)), (.ref ed), (.ref li)])) rfl (by rw [hml]; rfl) (argsL := [(.ref ed), (.int (22 : Int32))]) (rest := [(.ref li)]) (lenOf pd_6 rfl) rfl (by show 2 * 0 + _ ≤ _; exact Nat.le_of_eq rfl) (hb hby d63_37) (fun _ _ => ⟨rfl, e4, (by decide : 0 + 1 ≤ _), (by decide : 0 + 22 ≤ _)⟩)
  dsimp only [Pt.U, Pt.locs, Pt.cells, Pt.slots] at X5 l5 y5 z5 st5 hQ5
  subst l5 y5 z5
  obtain ⟨ed2, ke2, vs2, rfl, N5q, K5, EE5, VN5, LN5, hl5, OV5, gn5⟩ := hQ5
  have ne_li_ed2 : li ≠ ed2 := Nat.ne_of_lt (Nat.lt_of_lt_of_le EL.lt gn5)
  have g_ed2 : n0 ≤ ed2 := Nat.le_trans Z0 gn5
  have N5 := Fr.app N3 N5q
  have Z0_v5 : n0 ≤ T5.heap.size := Nat.le_trans Z0 K5.1
  have EL_v5 : Exa Z T5.heap li "java/util/ArrayList" := EL.keep K5
  have FD_v5 : Fld Z T5.heap li "java/util/ArrayList" "elementData" "[Ljava/lang/Object;" (.ref ed) := FD.keep K5 nin0
  have FS_v5 : Fld Z T5.heap li "java/util/ArrayList" "size" "I" (.int (Int32.ofNat n)) := FS.keep K5 nin0
  have FM_v5 : Fld Z T5.heap li "java/util/AbstractList" "modCount" "I" (.int mc) := FM.keep K5 nin0
  have EE_v5 : Exa Z T5.heap ed "[Ljava/lang/Object;" := EE.keep K5
  have VEl_v5 : Arv Z T5.heap ed ke (.object "java/lang/Object") (15 : Int32) vs .null := VEl.keep K5 nin0
  have LE_v5 : own_El Z T5.heap vs := own_El_keep K5 LE
  have f_K_v5 : Keep h0 T5.heap [li] := (Keep.refl h0 [li]).trans K5 all0
  have O0_v5 : Old Z n0 T5.heap := O0.keep K5 all0
  have f_S_java_util_ArrayList_DEFAULTCAPACITY_EMPTY_ELEMENTDATA_v5 : Sta Z T5.heap "java/util/ArrayList" "DEFAULTCAPACITY_EMPTY_ELEMENTDATA" "[Ljava/lang/Object;" (.ref dc) := SD.ext O0_v5.2
  refine Gl.st st5 ?_
  show Gl p e below P (T5.setTop (mkF m 40 #[.val (.ref li), .val (.int (16 : Int32)), .val (.int (15 : Int32)), .val (.int (22 : Int32))] [(.ref ed2), (.ref li)]))
  refine Gl.st (fun _ k => XS.dupX1 X5.here hx rfl (hb hby d63_40) rfl rfl rfl k) ?_
  show Gl p e below P (T5.setTop (mkF m 41 #[.val (.ref li), .val (.int (16 : Int32)), .val (.int (15 : Int32)), .val (.int (22 : Int32))] [(.ref ed2), (.ref li), (.ref ed2)]))
  obtain ⟨T6, h6, X6, e6, W6, st6⟩ := putF X5 hx hZ hown (host := "") (Or.inl (hw _ (List.mem_of_getElem? (i := 37) rfl))) Via.refl rfl FD_v5 EL_v5 (Or.inl (hw _ (List.mem_of_getElem? (i := 38) rfl))) (hw _ (List.mem_of_getElem? (i := 16) rfl)) (ty := (.array (.object "java/lang/Object"))) (by decide) rfl rfl (g := (mkF m 41 #[.val (.ref li), .val (.int (16 : Int32)), .val (.int (15 : Int32)), .val (.int (22 : Int32))] [(.ref ed2), (.ref li), (.ref ed2)])) rfl rfl (hb hby d63_41)
  refine Gl.st st6 ?_
  have Z0_v6 : n0 ≤ h6.size := Nat.le_trans Z0_v5 (Keep.of_wr W6).1
  have EL_v6 : Exa Z h6 li "java/util/ArrayList" := EL_v5.wr W6
  have FS_v6 : Fld Z h6 li "java/util/ArrayList" "size" "I" (.int (Int32.ofNat n)) := FS_v5.other W6 (Or.inr (slot_ne (Or.inl (hw _ (List.mem_of_getElem? (i := 62) rfl))) (Or.inl (hw _ (List.mem_of_getElem? (i := 38) rfl))) (by decide) (t := .int) (t' := (.array (.object "java/lang/Object"))) (by decide) (by decide)))
  have FM_v6 : Fld Z h6 li "java/util/AbstractList" "modCount" "I" (.int mc) := FM_v5.other W6 (Or.inr (slot_ne (Or.inl (hw _ (List.mem_of_getElem? (i := 35) rfl))) (Or.inl (hw _ (List.mem_of_getElem? (i := 38) rfl))) (by decide) (t := .int) (t' := (.array (.object "java/lang/Object"))) (by decide) (by decide)))
  have EE_v6 : Exa Z h6 ed "[Ljava/lang/Object;" := EE_v5.wr W6
  have VEl_v6 : Arv Z h6 ed ke (.object "java/lang/Object") (15 : Int32) vs .null := VEl_v5.other W6 (Ne.symm nle)
  have LE_v6 : own_El Z h6 vs := own_El_wr W6 LE_v5
  have f_K_v6 : Keep h0 h6 [li] := f_K_v5.wr W6 (Or.inl (List.mem_of_getElem? (i := 0) rfl))
  have O0_v6 : Old Z n0 h6 := O0_v5.wr W6 gi
  have f_S_java_util_ArrayList_DEFAULTCAPACITY_EMPTY_ELEMENTDATA_v6 : Sta Z h6 "java/util/ArrayList" "DEFAULTCAPACITY_EMPTY_ELEMENTDATA" "[Ljava/lang/Object;" (.ref dc) := f_S_java_util_ArrayList_DEFAULTCAPACITY_EMPTY_ELEMENTDATA_v5.wr W6
  have EE5_v6 : Exa Z h6 ed2 "[Ljava/lang/Object;" := EE5.wr W6
  have VN5_v6 : Arv Z h6 ed2 ke2 (.object "java/lang/Object") (22 : Int32) vs2 .null := VN5.other W6 (Ne.symm ne_li_ed2)
  have LN5_v6 : own_El Z h6 vs2 := own_El_wr W6 LN5
  have Fw6 : Fld Z h6 li "java/util/ArrayList" "elementData" "[Ljava/lang/Object;" (.ref ed2) := FD_v5.same W6
  have N6 := Fr.snoc X6 N5 gi
  show Gl p e below P (T6.setTop (mkF m 44 #[.val (.ref li), .val (.int (16 : Int32)), .val (.int (15 : Int32)), .val (.int (22 : Int32))] [(.ref ed2)]))
  obtain ⟨fs, hr, hrun, hended, hW, hsame⟩ := X6.leave (v := some (.ref ed2)) (fun h => by rw [Bd.returns] at h; cases h)
  refine ⟨_, _, retOut X6 hx Bd.returns rfl (Or.inr (Or.inr (Or.inr (Or.inr ⟨rfl, rfl, rfl⟩)))) (hb hby d63_44) hr, hrun, hended, hPost _ _ ⟨_, _, rfl, ?_, ⟨_, rfl⟩, hW, hsame.mono (by decide) (by decide)⟩⟩
  show Q675 Z li ed ke cap n vs mc dc mir h0 n0 _ T6.heap _
  rw [e6]
  exact ⟨_, _, _, rfl, N6, f_K_v6, ⟨EL_v6, Fw6, FS_v6, FM_v6, EE5_v6, VN5_v6, LN5_v6, hl5, by omega, Or.inr ⟨by decide, g_ed2, OV5⟩⟩, gn5⟩
theorem pn_680 : plainName "java/util/ArrayList" = true := by first | (simp [plainName, overriddenIn]; done) | decide +kernel
theorem ef_680 (m : MethodId) (x0 : Addr) : entryFrame m #[(.ref x0)] 1 = mkF m 0 #[.val (.ref x0)] [] := by first | (simp [entryFrame, mkF, argsToLocals, Value.category]; done) | rfl
def Q680 (Z : State) (li : Addr) (ed : Addr) (ke : ClassId) (cap : Nat) (n : Nat) (vs : List Value) (mc : Int32) (dc : Addr) (mir : Addr) (h0 : Heap) (n0 : Nat) (v : Option Value) (h : Heap) (L : List Loc) : Prop := ∃ ed2 ke2 vs2, v = some (.ref ed2) ∧ Fr n0 L ∧ Keep h0 h [li] ∧ own_Ls Z n0 dc h li ed2 ke2 10 n vs2 mc ∧ h0.size ≤ ed2
set_option maxRecDepth 65536 in
set_option maxHeartbeats 40000000 in
theorem rm680 (l : Launch) (Z : State) (a0 : Array Value) (hw : ∀ d ∈ tables_1, d.before a0 Z = true) (ws : List Jvm.Cond) (li : Addr) (ed : Addr) (ke : ClassId) (cap : Nat) (n : Nat) (vs : List Value) (mc : Int32) (dc : Addr) (mir : Addr) (h0 : Heap) (n0 : Nat) (Z0 : n0 ≤ h0.size) (HL : own_Ls Z n0 dc h0 li ed ke cap n vs mc) (hcap : cap = 0) (hn : n = 0) (gi : n0 ≤ li) (O0 : Old Z n0 h0) (SD : Sta Z Z.heap "java/util/ArrayList" "DEFAULTCAPACITY_EMPTY_ELEMENTDATA" "[Ljava/lang/Object;" (.ref dc)) (MI : Mir Z "[Ljava/lang/Object;" mir) :
    MetFree l (⟨"java/util/ArrayList", "grow", "()[Ljava/lang/Object;"⟩ : MethodName) (head1 (Jvm.Cond.code (⟨"java/util/ArrayList", "grow", "()[Ljava/lang/Object;"⟩ : MethodName) jdk_38_method_7_code 1 (some (.array (.object "java/lang/Object"))) :: ws) ({ frames := 4, cells := 1, slots := 10, locals := 112 } : Room)) (fun a U => a = #[(.ref li)] ∧ Z.Warmed39 U.vm ∧ U.heap = h0) (fun _ _ _ _ _ => True) (fun _ U o U' => ∃ v L, o = .returned v ∧ Q680 Z li ed ke cap n vs mc dc mir h0 n0 v U'.heap L ∧ FrameEnd U o U' L ({ frames := 4, cells := 1, slots := 10, locals := 112 } : Room).cells ({ frames := 4, cells := 1, slots := 10, locals := 112 } : Room).slots) := by
  refine MetFree.of_bodySF (plainFor_of_name pn_680) hisR ?_
  intro p e s m args below meth c s₁ Bd hml0 hP hK
  obtain ⟨rfl, hZ, hh⟩ := hP
  have hx := Bd.exec
  have hby := Bd.bytes
  have hml : c.maxLocals = 1 := hml0
  have hown : s.vm.findClass "java/util/ArrayList" = some m.cls := findClass_of_methodNamed Bd.named
  have hnm := (name_of_methodNamed Bd.named Bd.method).1
  have X0 : Stand p l e ({ frames := 4, cells := 1, slots := 10, locals := 112 } : Room) s m #[(.ref li)] below meth c s₁ [] 0 0 := Stand.of_body Bd
  have e0 : s₁.heap = h0 := by rw [← hh, Bd.state]; rfl
  have N0 := Fr.nil n0
  refine Gl.gen fun P hPost => ?_
  refine Gl.st (fun _ k => castTop (ef_680 m li ) k) ?_
  show Gl p e below P (s₁.setTop (mkF m 0 #[.val (.ref li)] []))
  obtain ⟨EL, FD, FS, FM, EE, VE, LE, hvl, hnc, hcp⟩ := id HL
  have nle : li ≠ ed := EL.neArv VE (hw _ (List.mem_of_getElem? (i := 16) rfl))
  refine Gl.st (fun _ k => XS.aloadN X0.here hx rfl (hb hby d64_0) rfl rfl k) ?_
  show Gl p e below P (s₁.setTop (mkF m 1 #[.val (.ref li)] [(.ref li)]))
  refine Gl.st (fun _ k => XS.aloadN X0.here hx rfl (hb hby d64_1) rfl rfl k) ?_
  show Gl p e below P (s₁.setTop (mkF m 2 #[.val (.ref li)] [(.ref li), (.ref li)]))
  obtain ⟨T1, X1, e1, st1⟩ := getF X0 hx hZ hown (host := "") (Or.inl (hw _ (List.mem_of_getElem? (i := 61) rfl))) Via.refl e0 FS (g := (mkF m 2 #[.val (.ref li)] [(.ref li), (.ref li)])) rfl rfl (hb hby d64_2)
  refine Gl.st st1 ?_
  show Gl p e below P (T1.setTop (mkF m 5 #[.val (.ref li)] [(.int (Int32.ofNat n)), (.ref li)]))
  refine Gl.st (fun _ k => XS.iconst X1.here hx rfl (hb hby d64_5) k) ?_
  show Gl p e below P (T1.setTop (mkF m 6 #[.val (.ref li)] [(.int (1 : Int32)), (.int (Int32.ofNat n)), (.ref li)]))
  refine Gl.st (fun _ k => XS.iadd X1.here hx rfl (hb hby d64_6) rfl k) ?_
  show Gl p e below P (T1.setTop (mkF m 7 #[.val (.ref li)] [(.int ((Int32.ofNat n) + (1 : Int32))), (.ref li)]))
  rw [show ((Int32.ofNat n) + (1 : Int32)) = (1 : Int32) from by rw [hn]; rfl]
  show Gl p e below P (T1.setTop (mkF m 7 #[.val (.ref li)] [(.int (1 : Int32)), (.ref li)]))
  obtain ⟨cq2, q2, q2'⟩ := EL.cell
  obtain ⟨_, _, ⟨T2, L2, k2, n2⟩, -, X2, ⟨Lc2, hQ2, l2, y2, z2⟩, st2⟩ := X1.privateBack hx (y := (⟨"java/util/ArrayList", "grow", "(I)[Ljava/lang/Object;"⟩ : MethodName)) hown (mvT hZ (hw _ (List.mem_of_getElem? (i := 85) rfl))) (mvT hZ (hw _ (List.mem_of_getElem? (i := 86) rfl))) (mvT hZ (hw _ (List.mem_of_getElem? (i := 88) rfl))) (Cond.privateMethod_at (mvP hZ (hw _ (List.mem_of_getElem? (i := 87) rfl)) (args := #[]))) (mvT hZ (hw _ (List.mem_of_getElem? (i := 89) rfl))) (by decide) (backOf (W := 0) (rm660 l Z a0 hw [] li ed ke cap n vs mc dc mir h0 n0 Z0 HL hcap hn gi O0 SD MI) hZ (hw _ (List.mem_of_getElem? (i := 89) rfl)) (hw _ (List.mem_of_getElem? (i := 17) rfl)) (by decide) (by decide)) (g := (mkF m 7 #[.val (.ref li)] [(.int (1 : Int32)), (.ref li)])) rfl (by rw [hml]; rfl) (Steps.refl _) (a := li) (by rw [e1]; exact q2) q2' (argsL := [(.int (1 : Int32))]) (rest := []) (lenOf pd_7 rfl) rfl (by show 2 * 0 + _ ≤ _; exact Nat.le_of_eq rfl) (hb hby d64_7) (fun _ _ => ⟨rfl, e1, (by decide : 0 + 1 ≤ _), (by decide : 0 + 10 ≤ _)⟩)
  dsimp only [Pt.U, Pt.locs, Pt.cells, Pt.slots] at X2 l2 y2 z2 st2 hQ2
  subst l2 y2 z2
  obtain ⟨ed2, ke2, vs2, rfl, N2q, K2, HL2, gn2⟩ := hQ2
  have N2 := Fr.app N0 N2q
  have Z0_v2 : n0 ≤ T2.heap.size := Nat.le_trans Z0 K2.1
  have EL_v2 : Exa Z T2.heap li "java/util/ArrayList" := EL.keep K2
  have EE_v2 : Exa Z T2.heap ed "[Ljava/lang/Object;" := EE.keep K2
  have VE_v2 : Arv Z T2.heap ed ke (.object "java/lang/Object") (Int32.ofNat cap) vs .null := VE.keep K2 (ninS (Ne.symm nle) nin0)
  have LE_v2 : own_El Z T2.heap vs := own_El_keep K2 LE
  refine Gl.tr st2 ?_
  show Gl p e below P (T2.setTop (mkF m 10 #[.val (.ref li)] [(.ref ed2)]))
  obtain ⟨fs, hr, hrun, hended, hW, hsame⟩ := X2.leave (v := some (.ref ed2)) (fun h => by rw [Bd.returns] at h; cases h)
  refine ⟨_, _, retOut X2 hx Bd.returns rfl (Or.inr (Or.inr (Or.inr (Or.inr ⟨rfl, rfl, rfl⟩)))) (hb hby d64_10) hr, hrun, hended, hPost _ _ ⟨_, _, rfl, ?_, ⟨_, rfl⟩, hW, hsame.mono (by decide) (by decide)⟩⟩
  show Q680 Z li ed ke cap n vs mc dc mir h0 n0 _ T2.heap _
  exact ⟨_, _, _, rfl, N2, K2, HL2, gn2⟩
theorem pn_690 : plainName "java/util/ArrayList" = true := by first | (simp [plainName, overriddenIn]; done) | decide +kernel
theorem ef_690 (m : MethodId) (x0 : Addr) : entryFrame m #[(.ref x0)] 1 = mkF m 0 #[.val (.ref x0)] [] := by first | (simp [entryFrame, mkF, argsToLocals, Value.category]; done) | rfl
def Q690 (Z : State) (li : Addr) (ed : Addr) (ke : ClassId) (cap : Nat) (n : Nat) (vs : List Value) (mc : Int32) (dc : Addr) (mir : Addr) (h0 : Heap) (n0 : Nat) (v : Option Value) (h : Heap) (L : List Loc) : Prop := ∃ ed2 ke2 vs2, v = some (.ref ed2) ∧ Fr n0 L ∧ Keep h0 h [li] ∧ own_Ls Z n0 dc h li ed2 ke2 15 n vs2 mc ∧ h0.size ≤ ed2
set_option maxRecDepth 65536 in
set_option maxHeartbeats 40000000 in
theorem rm690 (l : Launch) (Z : State) (a0 : Array Value) (hw : ∀ d ∈ tables_1, d.before a0 Z = true) (ws : List Jvm.Cond) (li : Addr) (ed : Addr) (ke : ClassId) (cap : Nat) (n : Nat) (vs : List Value) (mc : Int32) (dc : Addr) (mir : Addr) (h0 : Heap) (n0 : Nat) (Z0 : n0 ≤ h0.size) (HL : own_Ls Z n0 dc h0 li ed ke cap n vs mc) (hcap : cap = 10) (hn : n = 10) (gi : n0 ≤ li) (O0 : Old Z n0 h0) (SD : Sta Z Z.heap "java/util/ArrayList" "DEFAULTCAPACITY_EMPTY_ELEMENTDATA" "[Ljava/lang/Object;" (.ref dc)) (MI : Mir Z "[Ljava/lang/Object;" mir) :
    MetFree l (⟨"java/util/ArrayList", "grow", "()[Ljava/lang/Object;"⟩ : MethodName) (head1 (Jvm.Cond.code (⟨"java/util/ArrayList", "grow", "()[Ljava/lang/Object;"⟩ : MethodName) jdk_38_method_7_code 1 (some (.array (.object "java/lang/Object"))) :: ws) ({ frames := 4, cells := 1, slots := 15, locals := 112 } : Room)) (fun a U => a = #[(.ref li)] ∧ Z.Warmed39 U.vm ∧ U.heap = h0) (fun _ _ _ _ _ => True) (fun _ U o U' => ∃ v L, o = .returned v ∧ Q690 Z li ed ke cap n vs mc dc mir h0 n0 v U'.heap L ∧ FrameEnd U o U' L ({ frames := 4, cells := 1, slots := 15, locals := 112 } : Room).cells ({ frames := 4, cells := 1, slots := 15, locals := 112 } : Room).slots) := by
  refine MetFree.of_bodySF (plainFor_of_name pn_690) hisR ?_
  intro p e s m args below meth c s₁ Bd hml0 hP hK
  obtain ⟨rfl, hZ, hh⟩ := hP
  have hx := Bd.exec
  have hby := Bd.bytes
  have hml : c.maxLocals = 1 := hml0
  have hown : s.vm.findClass "java/util/ArrayList" = some m.cls := findClass_of_methodNamed Bd.named
  have hnm := (name_of_methodNamed Bd.named Bd.method).1
  have X0 : Stand p l e ({ frames := 4, cells := 1, slots := 15, locals := 112 } : Room) s m #[(.ref li)] below meth c s₁ [] 0 0 := Stand.of_body Bd
  have e0 : s₁.heap = h0 := by rw [← hh, Bd.state]; rfl
  have N0 := Fr.nil n0
  refine Gl.gen fun P hPost => ?_
  refine Gl.st (fun _ k => castTop (ef_690 m li ) k) ?_
  show Gl p e below P (s₁.setTop (mkF m 0 #[.val (.ref li)] []))
  obtain ⟨EL, FD, FS, FM, EE, VE, LE, hvl, hnc, hcp⟩ := id HL
  have nle : li ≠ ed := EL.neArv VE (hw _ (List.mem_of_getElem? (i := 16) rfl))
  refine Gl.st (fun _ k => XS.aloadN X0.here hx rfl (hb hby d64_0) rfl rfl k) ?_
  show Gl p e below P (s₁.setTop (mkF m 1 #[.val (.ref li)] [(.ref li)]))
  refine Gl.st (fun _ k => XS.aloadN X0.here hx rfl (hb hby d64_1) rfl rfl k) ?_
  show Gl p e below P (s₁.setTop (mkF m 2 #[.val (.ref li)] [(.ref li), (.ref li)]))
  obtain ⟨T1, X1, e1, st1⟩ := getF X0 hx hZ hown (host := "") (Or.inl (hw _ (List.mem_of_getElem? (i := 61) rfl))) Via.refl e0 FS (g := (mkF m 2 #[.val (.ref li)] [(.ref li), (.ref li)])) rfl rfl (hb hby d64_2)
  refine Gl.st st1 ?_
  show Gl p e below P (T1.setTop (mkF m 5 #[.val (.ref li)] [(.int (Int32.ofNat n)), (.ref li)]))
  refine Gl.st (fun _ k => XS.iconst X1.here hx rfl (hb hby d64_5) k) ?_
  show Gl p e below P (T1.setTop (mkF m 6 #[.val (.ref li)] [(.int (1 : Int32)), (.int (Int32.ofNat n)), (.ref li)]))
  refine Gl.st (fun _ k => XS.iadd X1.here hx rfl (hb hby d64_6) rfl k) ?_
  show Gl p e below P (T1.setTop (mkF m 7 #[.val (.ref li)] [(.int ((Int32.ofNat n) + (1 : Int32))), (.ref li)]))
  rw [show ((Int32.ofNat n) + (1 : Int32)) = (11 : Int32) from by rw [hn]; rfl]
  show Gl p e below P (T1.setTop (mkF m 7 #[.val (.ref li)] [(.int (11 : Int32)), (.ref li)]))
  obtain ⟨cq2, q2, q2'⟩ := EL.cell
  obtain ⟨_, _, ⟨T2, L2, k2, n2⟩, -, X2, ⟨Lc2, hQ2, l2, y2, z2⟩, st2⟩ := X1.privateBack hx (y := (⟨"java/util/ArrayList", "grow", "(I)[Ljava/lang/Object;"⟩ : MethodName)) hown (mvT hZ (hw _ (List.mem_of_getElem? (i := 85) rfl))) (mvT hZ (hw _ (List.mem_of_getElem? (i := 86) rfl))) (mvT hZ (hw _ (List.mem_of_getElem? (i := 88) rfl))) (Cond.privateMethod_at (mvP hZ (hw _ (List.mem_of_getElem? (i := 87) rfl)) (args := #[]))) (mvT hZ (hw _ (List.mem_of_getElem? (i := 89) rfl))) (by decide) (backOf (W := 0) (rm670 l Z a0 hw [] li ed ke cap n vs mc dc mir h0 n0 Z0 HL hcap hn gi O0 SD MI) hZ (hw _ (List.mem_of_getElem? (i := 89) rfl)) (hw _ (List.mem_of_getElem? (i := 17) rfl)) (by decide) (by decide)) (g := (mkF m 7 #[.val (.ref li)] [(.int (11 : Int32)), (.ref li)])) rfl (by rw [hml]; rfl) (Steps.refl _) (a := li) (by rw [e1]; exact q2) q2' (argsL := [(.int (11 : Int32))]) (rest := []) (lenOf pd_7 rfl) rfl (by show 2 * 0 + _ ≤ _; exact Nat.le_of_eq rfl) (hb hby d64_7) (fun _ _ => ⟨rfl, e1, (by decide : 0 + 1 ≤ _), (by decide : 0 + 15 ≤ _)⟩)
  dsimp only [Pt.U, Pt.locs, Pt.cells, Pt.slots] at X2 l2 y2 z2 st2 hQ2
  subst l2 y2 z2
  obtain ⟨ed2, ke2, vs2, rfl, N2q, K2, HL2, gn2⟩ := hQ2
  have N2 := Fr.app N0 N2q
  have Z0_v2 : n0 ≤ T2.heap.size := Nat.le_trans Z0 K2.1
  have EL_v2 : Exa Z T2.heap li "java/util/ArrayList" := EL.keep K2
  have EE_v2 : Exa Z T2.heap ed "[Ljava/lang/Object;" := EE.keep K2
  have VE_v2 : Arv Z T2.heap ed ke (.object "java/lang/Object") (Int32.ofNat cap) vs .null := VE.keep K2 (ninS (Ne.symm nle) nin0)
  have LE_v2 : own_El Z T2.heap vs := own_El_keep K2 LE
  refine Gl.tr st2 ?_
  show Gl p e below P (T2.setTop (mkF m 10 #[.val (.ref li)] [(.ref ed2)]))
  obtain ⟨fs, hr, hrun, hended, hW, hsame⟩ := X2.leave (v := some (.ref ed2)) (fun h => by rw [Bd.returns] at h; cases h)
  refine ⟨_, _, retOut X2 hx Bd.returns rfl (Or.inr (Or.inr (Or.inr (Or.inr ⟨rfl, rfl, rfl⟩)))) (hb hby d64_10) hr, hrun, hended, hPost _ _ ⟨_, _, rfl, ?_, ⟨_, rfl⟩, hW, hsame.mono (by decide) (by decide)⟩⟩
  show Q690 Z li ed ke cap n vs mc dc mir h0 n0 _ T2.heap _
  exact ⟨_, _, _, rfl, N2, K2, HL2, gn2⟩
theorem pn_695 : plainName "java/util/ArrayList" = true := by first | (simp [plainName, overriddenIn]; done) | decide +kernel
theorem ef_695 (m : MethodId) (x0 : Addr) : entryFrame m #[(.ref x0)] 1 = mkF m 0 #[.val (.ref x0)] [] := by first | (simp [entryFrame, mkF, argsToLocals, Value.category]; done) | rfl
def Q695 (Z : State) (li : Addr) (ed : Addr) (ke : ClassId) (cap : Nat) (n : Nat) (vs : List Value) (mc : Int32) (dc : Addr) (mir : Addr) (h0 : Heap) (n0 : Nat) (v : Option Value) (h : Heap) (L : List Loc) : Prop := ∃ ed2 ke2 vs2, v = some (.ref ed2) ∧ Fr n0 L ∧ Keep h0 h [li] ∧ own_Ls Z n0 dc h li ed2 ke2 22 n vs2 mc ∧ h0.size ≤ ed2
set_option maxRecDepth 65536 in
set_option maxHeartbeats 40000000 in
theorem rm695 (l : Launch) (Z : State) (a0 : Array Value) (hw : ∀ d ∈ tables_1, d.before a0 Z = true) (ws : List Jvm.Cond) (li : Addr) (ed : Addr) (ke : ClassId) (cap : Nat) (n : Nat) (vs : List Value) (mc : Int32) (dc : Addr) (mir : Addr) (h0 : Heap) (n0 : Nat) (Z0 : n0 ≤ h0.size) (HL : own_Ls Z n0 dc h0 li ed ke cap n vs mc) (hcap : cap = 15) (hn : n = 15) (gi : n0 ≤ li) (O0 : Old Z n0 h0) (SD : Sta Z Z.heap "java/util/ArrayList" "DEFAULTCAPACITY_EMPTY_ELEMENTDATA" "[Ljava/lang/Object;" (.ref dc)) (MI : Mir Z "[Ljava/lang/Object;" mir) :
    MetFree l (⟨"java/util/ArrayList", "grow", "()[Ljava/lang/Object;"⟩ : MethodName) (head1 (Jvm.Cond.code (⟨"java/util/ArrayList", "grow", "()[Ljava/lang/Object;"⟩ : MethodName) jdk_38_method_7_code 1 (some (.array (.object "java/lang/Object"))) :: ws) ({ frames := 4, cells := 1, slots := 22, locals := 112 } : Room)) (fun a U => a = #[(.ref li)] ∧ Z.Warmed39 U.vm ∧ U.heap = h0) (fun _ _ _ _ _ => True) (fun _ U o U' => ∃ v L, o = .returned v ∧ Q695 Z li ed ke cap n vs mc dc mir h0 n0 v U'.heap L ∧ FrameEnd U o U' L ({ frames := 4, cells := 1, slots := 22, locals := 112 } : Room).cells ({ frames := 4, cells := 1, slots := 22, locals := 112 } : Room).slots) := by
  refine MetFree.of_bodySF (plainFor_of_name pn_695) hisR ?_
  intro p e s m args below meth c s₁ Bd hml0 hP hK
  obtain ⟨rfl, hZ, hh⟩ := hP
  have hx := Bd.exec
  have hby := Bd.bytes
  have hml : c.maxLocals = 1 := hml0
  have hown : s.vm.findClass "java/util/ArrayList" = some m.cls := findClass_of_methodNamed Bd.named
  have hnm := (name_of_methodNamed Bd.named Bd.method).1
  have X0 : Stand p l e ({ frames := 4, cells := 1, slots := 22, locals := 112 } : Room) s m #[(.ref li)] below meth c s₁ [] 0 0 := Stand.of_body Bd
  have e0 : s₁.heap = h0 := by rw [← hh, Bd.state]; rfl
  have N0 := Fr.nil n0
  refine Gl.gen fun P hPost => ?_
  refine Gl.st (fun _ k => castTop (ef_695 m li ) k) ?_
  show Gl p e below P (s₁.setTop (mkF m 0 #[.val (.ref li)] []))
  obtain ⟨EL, FD, FS, FM, EE, VE, LE, hvl, hnc, hcp⟩ := id HL
  have nle : li ≠ ed := EL.neArv VE (hw _ (List.mem_of_getElem? (i := 16) rfl))
  refine Gl.st (fun _ k => XS.aloadN X0.here hx rfl (hb hby d64_0) rfl rfl k) ?_
  show Gl p e below P (s₁.setTop (mkF m 1 #[.val (.ref li)] [(.ref li)]))
  refine Gl.st (fun _ k => XS.aloadN X0.here hx rfl (hb hby d64_1) rfl rfl k) ?_
  show Gl p e below P (s₁.setTop (mkF m 2 #[.val (.ref li)] [(.ref li), (.ref li)]))
  obtain ⟨T1, X1, e1, st1⟩ := getF X0 hx hZ hown (host := "") (Or.inl (hw _ (List.mem_of_getElem? (i := 61) rfl))) Via.refl e0 FS (g := (mkF m 2 #[.val (.ref li)] [(.ref li), (.ref li)])) rfl rfl (hb hby d64_2)
  refine Gl.st st1 ?_
  show Gl p e below P (T1.setTop (mkF m 5 #[.val (.ref li)] [(.int (Int32.ofNat n)), (.ref li)]))
  refine Gl.st (fun _ k => XS.iconst X1.here hx rfl (hb hby d64_5) k) ?_
  show Gl p e below P (T1.setTop (mkF m 6 #[.val (.ref li)] [(.int (1 : Int32)), (.int (Int32.ofNat n)), (.ref li)]))
  refine Gl.st (fun _ k => XS.iadd X1.here hx rfl (hb hby d64_6) rfl k) ?_
  show Gl p e below P (T1.setTop (mkF m 7 #[.val (.ref li)] [(.int ((Int32.ofNat n) + (1 : Int32))), (.ref li)]))
  rw [show ((Int32.ofNat n) + (1 : Int32)) = (16 : Int32) from by rw [hn]; rfl]
  show Gl p e below P (T1.setTop (mkF m 7 #[.val (.ref li)] [(.int (16 : Int32)), (.ref li)]))
  obtain ⟨cq2, q2, q2'⟩ := EL.cell
  obtain ⟨_, _, ⟨T2, L2, k2, n2⟩, -, X2, ⟨Lc2, hQ2, l2, y2, z2⟩, st2⟩ := X1.privateBack hx (y := (⟨"java/util/ArrayList", "grow", "(I)[Ljava/lang/Object;"⟩ : MethodName)) hown (mvT hZ (hw _ (List.mem_of_getElem? (i := 85) rfl))) (mvT hZ (hw _ (List.mem_of_getElem? (i := 86) rfl))) (mvT hZ (hw _ (List.mem_of_getElem? (i := 88) rfl))) (Cond.privateMethod_at (mvP hZ (hw _ (List.mem_of_getElem? (i := 87) rfl)) (args := #[]))) (mvT hZ (hw _ (List.mem_of_getElem? (i := 89) rfl))) (by decide) (backOf (W := 0) (rm675 l Z a0 hw [] li ed ke cap n vs mc dc mir h0 n0 Z0 HL hcap hn gi O0 SD MI) hZ (hw _ (List.mem_of_getElem? (i := 89) rfl)) (hw _ (List.mem_of_getElem? (i := 17) rfl)) (by decide) (by decide)) (g := (mkF m 7 #[.val (.ref li)] [(.int (16 : Int32)), (.ref li)])) rfl (by rw [hml]; rfl) (Steps.refl _) (a := li) (by rw [e1]; exact q2) q2' (argsL := [(.int (16 : Int32))]) (rest := []) (lenOf pd_7 rfl) rfl (by show 2 * 0 + _ ≤ _; exact Nat.le_of_eq rfl) (hb hby d64_7) (fun _ _ => ⟨rfl, e1, (by decide : 0 + 1 ≤ _), (by decide : 0 + 22 ≤ _)⟩)
  dsimp only [Pt.U, Pt.locs, Pt.cells, Pt.slots] at X2 l2 y2 z2 st2 hQ2
  subst l2 y2 z2
  obtain ⟨ed2, ke2, vs2, rfl, N2q, K2, HL2, gn2⟩ := hQ2
  have N2 := Fr.app N0 N2q
  have Z0_v2 : n0 ≤ T2.heap.size := Nat.le_trans Z0 K2.1
  have EL_v2 : Exa Z T2.heap li "java/util/ArrayList" := EL.keep K2
  have EE_v2 : Exa Z T2.heap ed "[Ljava/lang/Object;" := EE.keep K2
  have VE_v2 : Arv Z T2.heap ed ke (.object "java/lang/Object") (Int32.ofNat cap) vs .null := VE.keep K2 (ninS (Ne.symm nle) nin0)
  have LE_v2 : own_El Z T2.heap vs := own_El_keep K2 LE
  refine Gl.tr st2 ?_
  show Gl p e below P (T2.setTop (mkF m 10 #[.val (.ref li)] [(.ref ed2)]))
  obtain ⟨fs, hr, hrun, hended, hW, hsame⟩ := X2.leave (v := some (.ref ed2)) (fun h => by rw [Bd.returns] at h; cases h)
  refine ⟨_, _, retOut X2 hx Bd.returns rfl (Or.inr (Or.inr (Or.inr (Or.inr ⟨rfl, rfl, rfl⟩)))) (hb hby d64_10) hr, hrun, hended, hPost _ _ ⟨_, _, rfl, ?_, ⟨_, rfl⟩, hW, hsame.mono (by decide) (by decide)⟩⟩
  show Q695 Z li ed ke cap n vs mc dc mir h0 n0 _ T2.heap _
  exact ⟨_, _, _, rfl, N2, K2, HL2, gn2⟩
theorem pn_70 : plainName "java/util/ArrayList" = true := by first | (simp [plainName, overriddenIn]; done) | decide +kernel
theorem ef_70 (m : MethodId) (x0 : Addr) (x1 : Addr) (x2 : Addr) (x3 : Int32) : entryFrame m #[(.ref x0), (.ref x1), (.ref x2), (.int x3)] 4 = mkF m 0 #[.val (.ref x0), .val (.ref x1), .val (.ref x2), .val (.int x3)] [] := by first | (simp [entryFrame, mkF, argsToLocals, Value.category]; done) | rfl
def Q70 (Z : State) (li : Addr) (ed : Addr) (ke : ClassId) (cap : Nat) (n : Nat) (vs : List Value) (mc : Int32) (dc : Addr) (mir : Addr) (ck : Addr) (gr : Nat) (h0 : Heap) (n0 : Nat) (v : Option Value) (h : Heap) (L : List Loc) : Prop := v = none ∧ ∃ ed2 ke2 cap2 vs2, Fr n0 L ∧ Keep h0 h [li, ed] ∧ Old Z n0 h ∧ own_Ls Z n0 dc h li ed2 ke2 cap2 (n + 1) vs2 mc ∧ vs2.getD n .null = .ref ck ∧ own_nx gr cap cap2
set_option maxRecDepth 65536 in
set_option maxHeartbeats 40000000 in
theorem rm70 (l : Launch) (Z : State) (a0 : Array Value) (hw : ∀ d ∈ tables_1, d.before a0 Z = true) (ws : List Jvm.Cond) (li : Addr) (ed : Addr) (ke : ClassId) (cap : Nat) (n : Nat) (vs : List Value) (mc : Int32) (dc : Addr) (mir : Addr) (ck : Addr) (gr : Nat) (h0 : Heap) (n0 : Nat) (Z0 : n0 ≤ h0.size) (HL : own_Ls Z n0 dc h0 li ed ke cap n vs mc) (IC : own_El Z h0 [.ref ck]) (hgr : (n < cap ∧ gr = 0) ∨ (n = cap ∧ n ≤ 16 ∧ gr = 22)) (gi : n0 ≤ li) (O0 : Old Z n0 h0) (SD : Sta Z Z.heap "java/util/ArrayList" "DEFAULTCAPACITY_EMPTY_ELEMENTDATA" "[Ljava/lang/Object;" (.ref dc)) (MI : Mir Z "[Ljava/lang/Object;" mir) :
    MetFree l (⟨"java/util/ArrayList", "add", "(Ljava/lang/Object;[Ljava/lang/Object;I)V"⟩ : MethodName) (head1 (Jvm.Cond.code (⟨"java/util/ArrayList", "add", "(Ljava/lang/Object;[Ljava/lang/Object;I)V"⟩ : MethodName) jdk_38_method_24_code 4 none :: ws) ({ frames := 5, cells := 1, slots := gr, locals := 124 } : Room)) (fun a U => a = #[(.ref li), (.ref ck), (.ref ed), (.int (Int32.ofNat n))] ∧ Z.Warmed39 U.vm ∧ U.heap = h0) (fun _ _ _ _ _ => True) (fun _ U o U' => ∃ v L, o = .returned v ∧ Q70 Z li ed ke cap n vs mc dc mir ck gr h0 n0 v U'.heap L ∧ FrameEnd U o U' L ({ frames := 5, cells := 1, slots := gr, locals := 124 } : Room).cells ({ frames := 5, cells := 1, slots := gr, locals := 124 } : Room).slots) := by
  refine MetFree.of_bodySF (plainFor_of_name pn_70) hisR ?_
  intro p e s m args below meth c s₁ Bd hml0 hP hK
  obtain ⟨rfl, hZ, hh⟩ := hP
  have hx := Bd.exec
  have hby := Bd.bytes
  have hml : c.maxLocals = 4 := hml0
  have hown : s.vm.findClass "java/util/ArrayList" = some m.cls := findClass_of_methodNamed Bd.named
  have hnm := (name_of_methodNamed Bd.named Bd.method).1
  have X0 : Stand p l e ({ frames := 5, cells := 1, slots := gr, locals := 124 } : Room) s m #[(.ref li), (.ref ck), (.ref ed), (.int (Int32.ofNat n))] below meth c s₁ [] 0 0 := Stand.of_body Bd
  have e0 : s₁.heap = h0 := by rw [← hh, Bd.state]; rfl
  have N0 := Fr.nil n0
  refine Gl.gen fun P hPost => ?_
  refine Gl.st (fun _ k => castTop (ef_70 m li ck ed (Int32.ofNat n) ) k) ?_
  show Gl p e below P (s₁.setTop (mkF m 0 #[.val (.ref li), .val (.ref ck), .val (.ref ed), .val (.int (Int32.ofNat n))] []))
  obtain ⟨EL, FD, FS, FM, EE, VE, LE, hvl, hnc, hcp⟩ := id HL
  have nle : li ≠ ed := EL.neArv VE (hw _ (List.mem_of_getElem? (i := 16) rfl))
  refine Gl.st (fun _ k => XS.iloadN X0.here hx rfl (hb hby d70_0) rfl k) ?_
  show Gl p e below P (s₁.setTop (mkF m 1 #[.val (.ref li), .val (.ref ck), .val (.ref ed), .val (.int (Int32.ofNat n))] [(.int (Int32.ofNat n))]))
  refine Gl.st (fun _ k => XS.aloadN X0.here hx rfl (hb hby d70_1) rfl rfl k) ?_
  show Gl p e below P (s₁.setTop (mkF m 2 #[.val (.ref li), .val (.ref ck), .val (.ref ed), .val (.int (Int32.ofNat n))] [(.ref ed), (.int (Int32.ofNat n))]))
  obtain ⟨c1, Ar1, q1, S1, M1, H1, U1⟩ := id VE
  refine Gl.st (X0.arraylength hx (by rw [e0]; exact Ar1.1) (State.isArrayOf_alike hZ.alike Ar1.2.1) (g := (mkF m 2 #[.val (.ref li), .val (.ref ck), .val (.ref ed), .val (.int (Int32.ofNat n))] [(.ref ed), (.int (Int32.ofNat n))])) rfl rfl (hb hby d70_2)) ?_
  rw [len_of S1 M1]
  show Gl p e below P (s₁.setTop (mkF m 3 #[.val (.ref li), .val (.ref ck), .val (.ref ed), .val (.int (Int32.ofNat n))] [(.int (Int32.ofNat cap)), (.int (Int32.ofNat n))]))
  rcases hgr with ⟨hlt, hg0⟩ | ⟨hnc2, hn16, hg22⟩
  · have hcp2 : (cap = 10 ∨ cap = 15 ∨ cap = 22) ∧ n0 ≤ ed ∧ Ovr Z ke "java/lang/Object" := by rcases hcp with ⟨q, -⟩ | q; omega; exact q
    obtain ⟨hcs, ge, OV⟩ := id hcp2
    refine Gl.st (fun _ k => XS.icmpYes X0.here hx rfl (pc0 := 3) (pc' := 11) rfl (hb hby d70_3) rfl (feq (fun q => absurd ((own_eq n cap (by omega) (by omega)).mp q) (by omega) : ¬ ((Int32.ofNat n) = (Int32.ofNat cap)))).2 (by decide) (by decide) k) ?_
    show Gl p e below P (s₁.setTop (mkF m 11 #[.val (.ref li), .val (.ref ck), .val (.ref ed), .val (.int (Int32.ofNat n))] []))
    refine Gl.st (fun _ k => XS.aloadN X0.here hx rfl (hb hby d70_11) rfl rfl k) ?_
    show Gl p e below P (s₁.setTop (mkF m 12 #[.val (.ref li), .val (.ref ck), .val (.ref ed), .val (.int (Int32.ofNat n))] [(.ref ed)]))
    refine Gl.st (fun _ k => XS.iloadN X0.here hx rfl (hb hby d70_12) rfl k) ?_
    show Gl p e below P (s₁.setTop (mkF m 13 #[.val (.ref li), .val (.ref ck), .val (.ref ed), .val (.int (Int32.ofNat n))] [(.int (Int32.ofNat n)), (.ref ed)]))
    refine Gl.st (fun _ k => XS.aloadN X0.here hx rfl (hb hby d70_13) rfl rfl k) ?_
    show Gl p e below P (s₁.setTop (mkF m 14 #[.val (.ref li), .val (.ref ck), .val (.ref ed), .val (.int (Int32.ofNat n))] [(.ref ck), (.int (Int32.ofNat n)), (.ref ed)]))
    obtain ⟨c2, Ar2, q2, S2, M2, H2, U2⟩ := id VE
    obtain ⟨T3, h3, X3, e3, W3, st3⟩ := stR X0 hx hZ e0 Ar2 (j := (Int32.ofNat n)) (inb_of S2 ⟨own_neg n (by omega), (own_lt n cap (by omega) (by omega)).mpr (by omega)⟩) rfl (own_StoL VE OV _ IC).1 (g := (mkF m 14 #[.val (.ref li), .val (.ref ck), .val (.ref ed), .val (.int (Int32.ofNat n))] [(.ref ck), (.int (Int32.ofNat n)), (.ref ed)])) rfl rfl (hb hby d70_14)
    refine Gl.st st3 ?_
    have Z0_v3 : n0 ≤ h3.size := Nat.le_trans Z0 (Keep.of_wr W3).1
    have EL_v3 : Exa Z h3 li "java/util/ArrayList" := EL.wr W3
    have FD_v3 : Fld Z h3 li "java/util/ArrayList" "elementData" "[Ljava/lang/Object;" (.ref ed) := FD.other W3 (Or.inl nle)
    have FS_v3 : Fld Z h3 li "java/util/ArrayList" "size" "I" (.int (Int32.ofNat n)) := FS.other W3 (Or.inl nle)
    have FM_v3 : Fld Z h3 li "java/util/AbstractList" "modCount" "I" (.int mc) := FM.other W3 (Or.inl nle)
    have EE_v3 : Exa Z h3 ed "[Ljava/lang/Object;" := EE.wr W3
    have LE_v3 : own_El Z h3 vs := own_El_wr W3 LE
    have f_K_v3 : Keep h0 h3 [li, ed] := (Keep.refl h0 [li, ed]).wr W3 (Or.inl (List.mem_of_getElem? (i := 1) rfl))
    have O0_v3 : Old Z n0 h3 := O0.wr W3 ge
    have IC_v3 : own_El Z h3 [.ref ck] := own_El_wr W3 IC
    have VN3 : Arv Z h3 ed ke (.object "java/lang/Object") (Int32.ofNat cap) (vs.set n (.ref ck)) .null := Arv.set Ar2 q2 S2 M2 H2 U2 rfl W3 _ (own_nn n (by omega)) (by rw [hvl]; omega)
    have LN3 : own_El Z h3 (vs.set n (.ref ck)) := own_El_set LE_v3 (IC_v3 _ (List.mem_singleton.mpr rfl)) n
    have N3 := Fr.snoc X3 N0 ge
    show Gl p e below P (T3.setTop (mkF m 15 #[.val (.ref li), .val (.ref ck), .val (.ref ed), .val (.int (Int32.ofNat n))] []))
    refine Gl.st (fun _ k => XS.aloadN X3.here hx rfl (hb hby d70_15) rfl rfl k) ?_
    show Gl p e below P (T3.setTop (mkF m 16 #[.val (.ref li), .val (.ref ck), .val (.ref ed), .val (.int (Int32.ofNat n))] [(.ref li)]))
    refine Gl.st (fun _ k => XS.iloadN X3.here hx rfl (hb hby d70_16) rfl k) ?_
    show Gl p e below P (T3.setTop (mkF m 17 #[.val (.ref li), .val (.ref ck), .val (.ref ed), .val (.int (Int32.ofNat n))] [(.int (Int32.ofNat n)), (.ref li)]))
    refine Gl.st (fun _ k => XS.iconst X3.here hx rfl (hb hby d70_17) k) ?_
    show Gl p e below P (T3.setTop (mkF m 18 #[.val (.ref li), .val (.ref ck), .val (.ref ed), .val (.int (Int32.ofNat n))] [(.int (1 : Int32)), (.int (Int32.ofNat n)), (.ref li)]))
    refine Gl.st (fun _ k => XS.iadd X3.here hx rfl (hb hby d70_18) rfl k) ?_
    show Gl p e below P (T3.setTop (mkF m 19 #[.val (.ref li), .val (.ref ck), .val (.ref ed), .val (.int (Int32.ofNat n))] [(.int ((Int32.ofNat n) + (1 : Int32))), (.ref li)]))
    rw [show ((Int32.ofNat n) + (1 : Int32)) = (Int32.ofNat (n + 1)) from own_s n]
    show Gl p e below P (T3.setTop (mkF m 19 #[.val (.ref li), .val (.ref ck), .val (.ref ed), .val (.int (Int32.ofNat n))] [(.int (Int32.ofNat (n + 1))), (.ref li)]))
    obtain ⟨T4, h4, X4, e4, W4, st4⟩ := putF X3 hx hZ hown (host := "") (Or.inl (hw _ (List.mem_of_getElem? (i := 61) rfl))) Via.refl e3 FS_v3 EL_v3 (Or.inl (hw _ (List.mem_of_getElem? (i := 62) rfl))) (hw _ (List.mem_of_getElem? (i := 16) rfl)) (ty := .int) (by decide) rfl rfl (g := (mkF m 19 #[.val (.ref li), .val (.ref ck), .val (.ref ed), .val (.int (Int32.ofNat n))] [(.int (Int32.ofNat (n + 1))), (.ref li)])) rfl rfl (hb hby d70_19)
    refine Gl.st st4 ?_
    have Z0_v4 : n0 ≤ h4.size := Nat.le_trans Z0_v3 (Keep.of_wr W4).1
    have EL_v4 : Exa Z h4 li "java/util/ArrayList" := EL_v3.wr W4
    have FD_v4 : Fld Z h4 li "java/util/ArrayList" "elementData" "[Ljava/lang/Object;" (.ref ed) := FD_v3.other W4 (Or.inr (slot_ne (Or.inl (hw _ (List.mem_of_getElem? (i := 38) rfl))) (Or.inl (hw _ (List.mem_of_getElem? (i := 62) rfl))) (by decide) (t := (.array (.object "java/lang/Object"))) (t' := .int) (by decide) (by decide)))
    have FM_v4 : Fld Z h4 li "java/util/AbstractList" "modCount" "I" (.int mc) := FM_v3.other W4 (Or.inr (slot_ne (Or.inl (hw _ (List.mem_of_getElem? (i := 35) rfl))) (Or.inl (hw _ (List.mem_of_getElem? (i := 62) rfl))) (by decide) (t := .int) (t' := .int) (by decide) (by decide)))
    have EE_v4 : Exa Z h4 ed "[Ljava/lang/Object;" := EE_v3.wr W4
    have VN3_v4 : Arv Z h4 ed ke (.object "java/lang/Object") (Int32.ofNat cap) (vs.set n (.ref ck)) .null := VN3.other W4 (Ne.symm nle)
    have LN3_v4 : own_El Z h4 (vs.set n (.ref ck)) := own_El_wr W4 LN3
    have f_K_v4 : Keep h0 h4 [li, ed] := f_K_v3.wr W4 (Or.inl (List.mem_of_getElem? (i := 0) rfl))
    have O0_v4 : Old Z n0 h4 := O0_v3.wr W4 gi
    have IC_v4 : own_El Z h4 [.ref ck] := own_El_wr W4 IC_v3
    have Fw4 : Fld Z h4 li "java/util/ArrayList" "size" "I" (.int (Int32.ofNat (n + 1))) := FS_v3.same W4
    have N4 := Fr.snoc X4 N3 gi
    show Gl p e below P (T4.setTop (mkF m 22 #[.val (.ref li), .val (.ref ck), .val (.ref ed), .val (.int (Int32.ofNat n))] []))
    obtain ⟨fs, hr, hrun, hended, hW, hsame⟩ := X4.leave (v := none) (fun _ => rfl)
    refine ⟨_, _, X4.returnOut hx Bd.returns (hb hby d70_22) hr, hrun, hended, hPost _ _ ⟨_, _, rfl, ?_, ⟨_, rfl⟩, hW, hsame.mono (show 0 ≤ 1 by omega) (show 0 ≤ gr by omega)⟩⟩
    show Q70 Z li ed ke cap n vs mc dc mir ck gr h0 n0 _ T4.heap _
    rw [e4]
    exact ⟨rfl, _, _, cap, _, N4, f_K_v4, O0_v4, ⟨EL_v4, FD_v4, Fw4, FM_v4, EE_v4, VN3_v4, LN3_v4, (by rw [List.length_set]; exact hvl), (by omega), (Or.inr hcp2)⟩, own_getset (by rw [hvl]; omega), Or.inl ⟨hg0, rfl⟩⟩
  · have hcs : cap = 0 ∨ cap = 10 ∨ cap = 15 := by rcases hcp with ⟨q, -⟩ | ⟨q | q | q, -⟩ <;> omega
    rcases hcs with hcap | hcap | hcap
    · have hn : n = 0 := by omega
      refine Gl.st (fun _ k => XS.icmpNo X0.here hx rfl (hb hby d70_3) rfl (teq ((own_eq n cap (by omega) (by omega)).mpr hnc2 : (Int32.ofNat n) = (Int32.ofNat cap))).2 k) ?_
      show Gl p e below P (s₁.setTop (mkF m 6 #[.val (.ref li), .val (.ref ck), .val (.ref ed), .val (.int (Int32.ofNat n))] []))
      refine Gl.st (fun _ k => XS.aloadN X0.here hx rfl (hb hby d70_6) rfl rfl k) ?_
      show Gl p e below P (s₁.setTop (mkF m 7 #[.val (.ref li), .val (.ref ck), .val (.ref ed), .val (.int (Int32.ofNat n))] [(.ref li)]))
      obtain ⟨cq5, q5, q5'⟩ := EL.cell
      obtain ⟨_, _, ⟨T5, L5, k5, n5⟩, -, X5, ⟨Lc5, hQ5, l5, y5, z5⟩, st5⟩ := X0.privateBack hx (y := (⟨"java/util/ArrayList", "grow", "()[Ljava/lang/Object;"⟩ : MethodName)) hown (mvT hZ (hw _ (List.mem_of_getElem? (i := 80) rfl))) (mvT hZ (hw _ (List.mem_of_getElem? (i := 81) rfl))) (mvT hZ (hw _ (List.mem_of_getElem? (i := 83) rfl))) (Cond.privateMethod_at (mvP hZ (hw _ (List.mem_of_getElem? (i := 82) rfl)) (args := #[]))) (mvT hZ (hw _ (List.mem_of_getElem? (i := 84) rfl))) (by decide) (backOf (W := 0) (rm680 l Z a0 hw [] li ed ke cap n vs mc dc mir h0 n0 Z0 HL hcap hn gi O0 SD MI) hZ (hw _ (List.mem_of_getElem? (i := 84) rfl)) (hw _ (List.mem_of_getElem? (i := 17) rfl)) (Nat.le_of_ble_eq_true rfl) (Nat.le_of_ble_eq_true rfl)) (g := (mkF m 7 #[.val (.ref li), .val (.ref ck), .val (.ref ed), .val (.int (Int32.ofNat n))] [(.ref li)])) rfl (by rw [hml]; rfl) (Steps.refl _) (a := li) (by rw [e0]; exact q5) q5' (argsL := []) (rest := []) (lenOf pd_8 rfl) rfl (by show 2 * 0 + _ ≤ _; exact Nat.le_of_eq rfl) (hb hby d70_7) (fun _ _ => ⟨rfl, e0, (Nat.le_of_ble_eq_true rfl : 0 + 1 ≤ _), (show 0 + 10 ≤ gr by omega)⟩)
      dsimp only [Pt.U, Pt.locs, Pt.cells, Pt.slots] at X5 l5 y5 z5 st5 hQ5
      subst l5 y5 z5
      obtain ⟨ed2, ke2, vs2, rfl, N5q, K5, HL5, gn5⟩ := hQ5
      have N5 := Fr.app N0 N5q
      have Z0_v5 : n0 ≤ T5.heap.size := Nat.le_trans Z0 K5.1
      have EL_v5 : Exa Z T5.heap li "java/util/ArrayList" := EL.keep K5
      have EE_v5 : Exa Z T5.heap ed "[Ljava/lang/Object;" := EE.keep K5
      have f_K_v5 : Keep h0 T5.heap [li, ed] := (Keep.refl h0 [li, ed]).trans K5 (allS (Or.inl (List.mem_of_getElem? (i := 0) rfl)) all0)
      have O0_v5 : Old Z n0 T5.heap := O0.keep K5 (allS gi all0)
      have IC_v5 : own_El Z T5.heap [.ref ck] := own_El_keep K5 IC
      refine Gl.tr st5 ?_
      show Gl p e below P (T5.setTop (mkF m 10 #[.val (.ref li), .val (.ref ck), .val (.ref ed), .val (.int (Int32.ofNat n))] [(.ref ed2)]))
      have g_ed2 : n0 ≤ ed2 := Nat.le_trans Z0 gn5
      obtain ⟨ELg, FDg, FSg, FMg, EEg, VEg, LEg, hvlg, hncg, hcpg⟩ := id HL5
      have nleg : li ≠ ed2 := ELg.neArv VEg (hw _ (List.mem_of_getElem? (i := 16) rfl))
      have OVg : Ovr Z ke2 "java/lang/Object" := by rcases hcpg with ⟨q, -⟩ | ⟨-, -, q⟩; omega; exact q
      refine Gl.st (fun _ k => XS.astoreN X5.here hx rfl (hb hby d70_10) rfl rfl (l' := #[.val (.ref li), .val (.ref ck), .val (.ref ed2), .val (.int (Int32.ofNat n))]) rfl k) ?_
      show Gl p e below P (T5.setTop (mkF m 11 #[.val (.ref li), .val (.ref ck), .val (.ref ed2), .val (.int (Int32.ofNat n))] []))
      refine Gl.st (fun _ k => XS.aloadN X5.here hx rfl (hb hby d70_11) rfl rfl k) ?_
      show Gl p e below P (T5.setTop (mkF m 12 #[.val (.ref li), .val (.ref ck), .val (.ref ed2), .val (.int (Int32.ofNat n))] [(.ref ed2)]))
      refine Gl.st (fun _ k => XS.iloadN X5.here hx rfl (hb hby d70_12) rfl k) ?_
      show Gl p e below P (T5.setTop (mkF m 13 #[.val (.ref li), .val (.ref ck), .val (.ref ed2), .val (.int (Int32.ofNat n))] [(.int (Int32.ofNat n)), (.ref ed2)]))
      refine Gl.st (fun _ k => XS.aloadN X5.here hx rfl (hb hby d70_13) rfl rfl k) ?_
      show Gl p e below P (T5.setTop (mkF m 14 #[.val (.ref li), .val (.ref ck), .val (.ref ed2), .val (.int (Int32.ofNat n))] [(.ref ck), (.int (Int32.ofNat n)), (.ref ed2)]))
      obtain ⟨c6, Ar6, q6, S6, M6, H6, U6⟩ := id VEg
      obtain ⟨T7, h7, X7, e7, W7, st7⟩ := stR X5 hx hZ rfl Ar6 (j := (Int32.ofNat n)) (inb_of S6 ⟨own_neg n (by omega), (own_lt n 10 (by omega) (by omega)).mpr (by omega)⟩) rfl (own_StoL VEg OVg _ IC_v5).1 (g := (mkF m 14 #[.val (.ref li), .val (.ref ck), .val (.ref ed2), .val (.int (Int32.ofNat n))] [(.ref ck), (.int (Int32.ofNat n)), (.ref ed2)])) rfl rfl (hb hby d70_14)
      refine Gl.st st7 ?_
      have Z0_v7 : n0 ≤ h7.size := Nat.le_trans Z0_v5 (Keep.of_wr W7).1
      have ELg_v7 : Exa Z h7 li "java/util/ArrayList" := ELg.wr W7
      have f_K_v7 : Keep h0 h7 [li, ed] := f_K_v5.wr W7 (Or.inr gn5)
      have O0_v7 : Old Z n0 h7 := O0_v5.wr W7 g_ed2
      have IC_v7 : own_El Z h7 [.ref ck] := own_El_wr W7 IC_v5
      have FDg_v7 : Fld Z h7 li "java/util/ArrayList" "elementData" "[Ljava/lang/Object;" (.ref ed2) := FDg.other W7 (Or.inl nleg)
      have FSg_v7 : Fld Z h7 li "java/util/ArrayList" "size" "I" (.int (Int32.ofNat n)) := FSg.other W7 (Or.inl nleg)
      have FMg_v7 : Fld Z h7 li "java/util/AbstractList" "modCount" "I" (.int mc) := FMg.other W7 (Or.inl nleg)
      have EEg_v7 : Exa Z h7 ed2 "[Ljava/lang/Object;" := EEg.wr W7
      have LEg_v7 : own_El Z h7 vs2 := own_El_wr W7 LEg
      have VN7 : Arv Z h7 ed2 ke2 (.object "java/lang/Object") (Int32.ofNat 10) (vs2.set n (.ref ck)) .null := Arv.set Ar6 q6 S6 M6 H6 U6 rfl W7 _ (own_nn n (by omega)) (by rw [hvlg]; omega)
      have LN7 : own_El Z h7 (vs2.set n (.ref ck)) := own_El_set LEg_v7 (IC_v7 _ (List.mem_singleton.mpr rfl)) n
      have N7 := Fr.snoc X7 N5 g_ed2
      show Gl p e below P (T7.setTop (mkF m 15 #[.val (.ref li), .val (.ref ck), .val (.ref ed2), .val (.int (Int32.ofNat n))] []))
      refine Gl.st (fun _ k => XS.aloadN X7.here hx rfl (hb hby d70_15) rfl rfl k) ?_
      show Gl p e below P (T7.setTop (mkF m 16 #[.val (.ref li), .val (.ref ck), .val (.ref ed2), .val (.int (Int32.ofNat n))] [(.ref li)]))
      refine Gl.st (fun _ k => XS.iloadN X7.here hx rfl (hb hby d70_16) rfl k) ?_
      show Gl p e below P (T7.setTop (mkF m 17 #[.val (.ref li), .val (.ref ck), .val (.ref ed2), .val (.int (Int32.ofNat n))] [(.int (Int32.ofNat n)), (.ref li)]))
      refine Gl.st (fun _ k => XS.iconst X7.here hx rfl (hb hby d70_17) k) ?_
      show Gl p e below P (T7.setTop (mkF m 18 #[.val (.ref li), .val (.ref ck), .val (.ref ed2), .val (.int (Int32.ofNat n))] [(.int (1 : Int32)), (.int (Int32.ofNat n)), (.ref li)]))
      refine Gl.st (fun _ k => XS.iadd X7.here hx rfl (hb hby d70_18) rfl k) ?_
      show Gl p e below P (T7.setTop (mkF m 19 #[.val (.ref li), .val (.ref ck), .val (.ref ed2), .val (.int (Int32.ofNat n))] [(.int ((Int32.ofNat n) + (1 : Int32))), (.ref li)]))
      rw [show ((Int32.ofNat n) + (1 : Int32)) = (Int32.ofNat (n + 1)) from own_s n]
      show Gl p e below P (T7.setTop (mkF m 19 #[.val (.ref li), .val (.ref ck), .val (.ref ed2), .val (.int (Int32.ofNat n))] [(.int (Int32.ofNat (n + 1))), (.ref li)]))
      obtain ⟨T8, h8, X8, e8, W8, st8⟩ := putF X7 hx hZ hown (host := "") (Or.inl (hw _ (List.mem_of_getElem? (i := 61) rfl))) Via.refl e7 FSg_v7 ELg_v7 (Or.inl (hw _ (List.mem_of_getElem? (i := 62) rfl))) (hw _ (List.mem_of_getElem? (i := 16) rfl)) (ty := .int) (by decide) rfl rfl (g := (mkF m 19 #[.val (.ref li), .val (.ref ck), .val (.ref ed2), .val (.int (Int32.ofNat n))] [(.int (Int32.ofNat (n + 1))), (.ref li)])) rfl rfl (hb hby d70_19)
      refine Gl.st st8 ?_
      have Z0_v8 : n0 ≤ h8.size := Nat.le_trans Z0_v7 (Keep.of_wr W8).1
      have ELg_v8 : Exa Z h8 li "java/util/ArrayList" := ELg_v7.wr W8
      have f_K_v8 : Keep h0 h8 [li, ed] := f_K_v7.wr W8 (Or.inl (List.mem_of_getElem? (i := 0) rfl))
      have O0_v8 : Old Z n0 h8 := O0_v7.wr W8 gi
      have IC_v8 : own_El Z h8 [.ref ck] := own_El_wr W8 IC_v7
      have FDg_v8 : Fld Z h8 li "java/util/ArrayList" "elementData" "[Ljava/lang/Object;" (.ref ed2) := FDg_v7.other W8 (Or.inr (slot_ne (Or.inl (hw _ (List.mem_of_getElem? (i := 38) rfl))) (Or.inl (hw _ (List.mem_of_getElem? (i := 62) rfl))) (by decide) (t := (.array (.object "java/lang/Object"))) (t' := .int) (by decide) (by decide)))
      have FMg_v8 : Fld Z h8 li "java/util/AbstractList" "modCount" "I" (.int mc) := FMg_v7.other W8 (Or.inr (slot_ne (Or.inl (hw _ (List.mem_of_getElem? (i := 35) rfl))) (Or.inl (hw _ (List.mem_of_getElem? (i := 62) rfl))) (by decide) (t := .int) (t' := .int) (by decide) (by decide)))
      have EEg_v8 : Exa Z h8 ed2 "[Ljava/lang/Object;" := EEg_v7.wr W8
      have VN7_v8 : Arv Z h8 ed2 ke2 (.object "java/lang/Object") (Int32.ofNat 10) (vs2.set n (.ref ck)) .null := VN7.other W8 (Ne.symm nleg)
      have LN7_v8 : own_El Z h8 (vs2.set n (.ref ck)) := own_El_wr W8 LN7
      have Fw8 : Fld Z h8 li "java/util/ArrayList" "size" "I" (.int (Int32.ofNat (n + 1))) := FSg_v7.same W8
      have N8 := Fr.snoc X8 N7 gi
      show Gl p e below P (T8.setTop (mkF m 22 #[.val (.ref li), .val (.ref ck), .val (.ref ed2), .val (.int (Int32.ofNat n))] []))
      obtain ⟨fs, hr, hrun, hended, hW, hsame⟩ := X8.leave (v := none) (fun _ => rfl)
      refine ⟨_, _, X8.returnOut hx Bd.returns (hb hby d70_22) hr, hrun, hended, hPost _ _ ⟨_, _, rfl, ?_, ⟨_, rfl⟩, hW, hsame.mono (show 1 ≤ 1 by omega) (show 10 ≤ gr by omega)⟩⟩
      show Q70 Z li ed ke cap n vs mc dc mir ck gr h0 n0 _ T8.heap _
      rw [e8]
      exact ⟨rfl, _, _, 10, _, N8, f_K_v8, O0_v8, ⟨ELg_v8, FDg_v8, Fw8, FMg_v8, EEg_v8, VN7_v8, LN7_v8, (by rw [List.length_set]; exact hvlg), (by omega), hcpg⟩, own_getset (by rw [hvlg]; omega), Or.inr ⟨hg22, by omega⟩⟩
    · have hn : n = 10 := by omega
      refine Gl.st (fun _ k => XS.icmpNo X0.here hx rfl (hb hby d70_3) rfl (teq ((own_eq n cap (by omega) (by omega)).mpr hnc2 : (Int32.ofNat n) = (Int32.ofNat cap))).2 k) ?_
      show Gl p e below P (s₁.setTop (mkF m 6 #[.val (.ref li), .val (.ref ck), .val (.ref ed), .val (.int (Int32.ofNat n))] []))
      refine Gl.st (fun _ k => XS.aloadN X0.here hx rfl (hb hby d70_6) rfl rfl k) ?_
      show Gl p e below P (s₁.setTop (mkF m 7 #[.val (.ref li), .val (.ref ck), .val (.ref ed), .val (.int (Int32.ofNat n))] [(.ref li)]))
      obtain ⟨cq9, q9, q9'⟩ := EL.cell
      obtain ⟨_, _, ⟨T9, L9, k9, n9⟩, -, X9, ⟨Lc9, hQ9, l9, y9, z9⟩, st9⟩ := X0.privateBack hx (y := (⟨"java/util/ArrayList", "grow", "()[Ljava/lang/Object;"⟩ : MethodName)) hown (mvT hZ (hw _ (List.mem_of_getElem? (i := 80) rfl))) (mvT hZ (hw _ (List.mem_of_getElem? (i := 81) rfl))) (mvT hZ (hw _ (List.mem_of_getElem? (i := 83) rfl))) (Cond.privateMethod_at (mvP hZ (hw _ (List.mem_of_getElem? (i := 82) rfl)) (args := #[]))) (mvT hZ (hw _ (List.mem_of_getElem? (i := 84) rfl))) (by decide) (backOf (W := 0) (rm690 l Z a0 hw [] li ed ke cap n vs mc dc mir h0 n0 Z0 HL hcap hn gi O0 SD MI) hZ (hw _ (List.mem_of_getElem? (i := 84) rfl)) (hw _ (List.mem_of_getElem? (i := 17) rfl)) (Nat.le_of_ble_eq_true rfl) (Nat.le_of_ble_eq_true rfl)) (g := (mkF m 7 #[.val (.ref li), .val (.ref ck), .val (.ref ed), .val (.int (Int32.ofNat n))] [(.ref li)])) rfl (by rw [hml]; rfl) (Steps.refl _) (a := li) (by rw [e0]; exact q9) q9' (argsL := []) (rest := []) (lenOf pd_8 rfl) rfl (by show 2 * 0 + _ ≤ _; exact Nat.le_of_eq rfl) (hb hby d70_7) (fun _ _ => ⟨rfl, e0, (Nat.le_of_ble_eq_true rfl : 0 + 1 ≤ _), (show 0 + 15 ≤ gr by omega)⟩)
      dsimp only [Pt.U, Pt.locs, Pt.cells, Pt.slots] at X9 l9 y9 z9 st9 hQ9
      subst l9 y9 z9
      obtain ⟨ed2, ke2, vs2, rfl, N9q, K9, HL9, gn9⟩ := hQ9
      have N9 := Fr.app N0 N9q
      have Z0_v9 : n0 ≤ T9.heap.size := Nat.le_trans Z0 K9.1
      have EL_v9 : Exa Z T9.heap li "java/util/ArrayList" := EL.keep K9
      have EE_v9 : Exa Z T9.heap ed "[Ljava/lang/Object;" := EE.keep K9
      have f_K_v9 : Keep h0 T9.heap [li, ed] := (Keep.refl h0 [li, ed]).trans K9 (allS (Or.inl (List.mem_of_getElem? (i := 0) rfl)) all0)
      have O0_v9 : Old Z n0 T9.heap := O0.keep K9 (allS gi all0)
      have IC_v9 : own_El Z T9.heap [.ref ck] := own_El_keep K9 IC
      refine Gl.tr st9 ?_
      show Gl p e below P (T9.setTop (mkF m 10 #[.val (.ref li), .val (.ref ck), .val (.ref ed), .val (.int (Int32.ofNat n))] [(.ref ed2)]))
      have g_ed2 : n0 ≤ ed2 := Nat.le_trans Z0 gn9
      obtain ⟨ELg, FDg, FSg, FMg, EEg, VEg, LEg, hvlg, hncg, hcpg⟩ := id HL9
      have nleg : li ≠ ed2 := ELg.neArv VEg (hw _ (List.mem_of_getElem? (i := 16) rfl))
      have OVg : Ovr Z ke2 "java/lang/Object" := by rcases hcpg with ⟨q, -⟩ | ⟨-, -, q⟩; omega; exact q
      refine Gl.st (fun _ k => XS.astoreN X9.here hx rfl (hb hby d70_10) rfl rfl (l' := #[.val (.ref li), .val (.ref ck), .val (.ref ed2), .val (.int (Int32.ofNat n))]) rfl k) ?_
      show Gl p e below P (T9.setTop (mkF m 11 #[.val (.ref li), .val (.ref ck), .val (.ref ed2), .val (.int (Int32.ofNat n))] []))
      refine Gl.st (fun _ k => XS.aloadN X9.here hx rfl (hb hby d70_11) rfl rfl k) ?_
      show Gl p e below P (T9.setTop (mkF m 12 #[.val (.ref li), .val (.ref ck), .val (.ref ed2), .val (.int (Int32.ofNat n))] [(.ref ed2)]))
      refine Gl.st (fun _ k => XS.iloadN X9.here hx rfl (hb hby d70_12) rfl k) ?_
      show Gl p e below P (T9.setTop (mkF m 13 #[.val (.ref li), .val (.ref ck), .val (.ref ed2), .val (.int (Int32.ofNat n))] [(.int (Int32.ofNat n)), (.ref ed2)]))
      refine Gl.st (fun _ k => XS.aloadN X9.here hx rfl (hb hby d70_13) rfl rfl k) ?_
      show Gl p e below P (T9.setTop (mkF m 14 #[.val (.ref li), .val (.ref ck), .val (.ref ed2), .val (.int (Int32.ofNat n))] [(.ref ck), (.int (Int32.ofNat n)), (.ref ed2)]))
      obtain ⟨c10, Ar10, q10, S10, M10, H10, U10⟩ := id VEg
      obtain ⟨T11, h11, X11, e11, W11, st11⟩ := stR X9 hx hZ rfl Ar10 (j := (Int32.ofNat n)) (inb_of S10 ⟨own_neg n (by omega), (own_lt n 15 (by omega) (by omega)).mpr (by omega)⟩) rfl (own_StoL VEg OVg _ IC_v9).1 (g := (mkF m 14 #[.val (.ref li), .val (.ref ck), .val (.ref ed2), .val (.int (Int32.ofNat n))] [(.ref ck), (.int (Int32.ofNat n)), (.ref ed2)])) rfl rfl (hb hby d70_14)
      refine Gl.st st11 ?_
      have Z0_v11 : n0 ≤ h11.size := Nat.le_trans Z0_v9 (Keep.of_wr W11).1
      have ELg_v11 : Exa Z h11 li "java/util/ArrayList" := ELg.wr W11
      have f_K_v11 : Keep h0 h11 [li, ed] := f_K_v9.wr W11 (Or.inr gn9)
      have O0_v11 : Old Z n0 h11 := O0_v9.wr W11 g_ed2
      have IC_v11 : own_El Z h11 [.ref ck] := own_El_wr W11 IC_v9
      have FDg_v11 : Fld Z h11 li "java/util/ArrayList" "elementData" "[Ljava/lang/Object;" (.ref ed2) := FDg.other W11 (Or.inl nleg)
      have FSg_v11 : Fld Z h11 li "java/util/ArrayList" "size" "I" (.int (Int32.ofNat n)) := FSg.other W11 (Or.inl nleg)
      have FMg_v11 : Fld Z h11 li "java/util/AbstractList" "modCount" "I" (.int mc) := FMg.other W11 (Or.inl nleg)
      have EEg_v11 : Exa Z h11 ed2 "[Ljava/lang/Object;" := EEg.wr W11
      have LEg_v11 : own_El Z h11 vs2 := own_El_wr W11 LEg
      have VN11 : Arv Z h11 ed2 ke2 (.object "java/lang/Object") (Int32.ofNat 15) (vs2.set n (.ref ck)) .null := Arv.set Ar10 q10 S10 M10 H10 U10 rfl W11 _ (own_nn n (by omega)) (by rw [hvlg]; omega)
      have LN11 : own_El Z h11 (vs2.set n (.ref ck)) := own_El_set LEg_v11 (IC_v11 _ (List.mem_singleton.mpr rfl)) n
      have N11 := Fr.snoc X11 N9 g_ed2
      show Gl p e below P (T11.setTop (mkF m 15 #[.val (.ref li), .val (.ref ck), .val (.ref ed2), .val (.int (Int32.ofNat n))] []))
      refine Gl.st (fun _ k => XS.aloadN X11.here hx rfl (hb hby d70_15) rfl rfl k) ?_
      show Gl p e below P (T11.setTop (mkF m 16 #[.val (.ref li), .val (.ref ck), .val (.ref ed2), .val (.int (Int32.ofNat n))] [(.ref li)]))
      refine Gl.st (fun _ k => XS.iloadN X11.here hx rfl (hb hby d70_16) rfl k) ?_
      show Gl p e below P (T11.setTop (mkF m 17 #[.val (.ref li), .val (.ref ck), .val (.ref ed2), .val (.int (Int32.ofNat n))] [(.int (Int32.ofNat n)), (.ref li)]))
      refine Gl.st (fun _ k => XS.iconst X11.here hx rfl (hb hby d70_17) k) ?_
      show Gl p e below P (T11.setTop (mkF m 18 #[.val (.ref li), .val (.ref ck), .val (.ref ed2), .val (.int (Int32.ofNat n))] [(.int (1 : Int32)), (.int (Int32.ofNat n)), (.ref li)]))
      refine Gl.st (fun _ k => XS.iadd X11.here hx rfl (hb hby d70_18) rfl k) ?_
      show Gl p e below P (T11.setTop (mkF m 19 #[.val (.ref li), .val (.ref ck), .val (.ref ed2), .val (.int (Int32.ofNat n))] [(.int ((Int32.ofNat n) + (1 : Int32))), (.ref li)]))
      rw [show ((Int32.ofNat n) + (1 : Int32)) = (Int32.ofNat (n + 1)) from own_s n]
      show Gl p e below P (T11.setTop (mkF m 19 #[.val (.ref li), .val (.ref ck), .val (.ref ed2), .val (.int (Int32.ofNat n))] [(.int (Int32.ofNat (n + 1))), (.ref li)]))
      obtain ⟨T12, h12, X12, e12, W12, st12⟩ := putF X11 hx hZ hown (host := "") (Or.inl (hw _ (List.mem_of_getElem? (i := 61) rfl))) Via.refl e11 FSg_v11 ELg_v11 (Or.inl (hw _ (List.mem_of_getElem? (i := 62) rfl))) (hw _ (List.mem_of_getElem? (i := 16) rfl)) (ty := .int) (by decide) rfl rfl (g := (mkF m 19 #[.val (.ref li), .val (.ref ck), .val (.ref ed2), .val (.int (Int32.ofNat n))] [(.int (Int32.ofNat (n + 1))), (.ref li)])) rfl rfl (hb hby d70_19)
      refine Gl.st st12 ?_
      have Z0_v12 : n0 ≤ h12.size := Nat.le_trans Z0_v11 (Keep.of_wr W12).1
      have ELg_v12 : Exa Z h12 li "java/util/ArrayList" := ELg_v11.wr W12
      have f_K_v12 : Keep h0 h12 [li, ed] := f_K_v11.wr W12 (Or.inl (List.mem_of_getElem? (i := 0) rfl))
      have O0_v12 : Old Z n0 h12 := O0_v11.wr W12 gi
      have IC_v12 : own_El Z h12 [.ref ck] := own_El_wr W12 IC_v11
      have FDg_v12 : Fld Z h12 li "java/util/ArrayList" "elementData" "[Ljava/lang/Object;" (.ref ed2) := FDg_v11.other W12 (Or.inr (slot_ne (Or.inl (hw _ (List.mem_of_getElem? (i := 38) rfl))) (Or.inl (hw _ (List.mem_of_getElem? (i := 62) rfl))) (by decide) (t := (.array (.object "java/lang/Object"))) (t' := .int) (by decide) (by decide)))
      have FMg_v12 : Fld Z h12 li "java/util/AbstractList" "modCount" "I" (.int mc) := FMg_v11.other W12 (Or.inr (slot_ne (Or.inl (hw _ (List.mem_of_getElem? (i := 35) rfl))) (Or.inl (hw _ (List.mem_of_getElem? (i := 62) rfl))) (by decide) (t := .int) (t' := .int) (by decide) (by decide)))
      have EEg_v12 : Exa Z h12 ed2 "[Ljava/lang/Object;" := EEg_v11.wr W12
      have VN11_v12 : Arv Z h12 ed2 ke2 (.object "java/lang/Object") (Int32.ofNat 15) (vs2.set n (.ref ck)) .null := VN11.other W12 (Ne.symm nleg)
      have LN11_v12 : own_El Z h12 (vs2.set n (.ref ck)) := own_El_wr W12 LN11
      have Fw12 : Fld Z h12 li "java/util/ArrayList" "size" "I" (.int (Int32.ofNat (n + 1))) := FSg_v11.same W12
      have N12 := Fr.snoc X12 N11 gi
      show Gl p e below P (T12.setTop (mkF m 22 #[.val (.ref li), .val (.ref ck), .val (.ref ed2), .val (.int (Int32.ofNat n))] []))
      obtain ⟨fs, hr, hrun, hended, hW, hsame⟩ := X12.leave (v := none) (fun _ => rfl)
      refine ⟨_, _, X12.returnOut hx Bd.returns (hb hby d70_22) hr, hrun, hended, hPost _ _ ⟨_, _, rfl, ?_, ⟨_, rfl⟩, hW, hsame.mono (show 1 ≤ 1 by omega) (show 15 ≤ gr by omega)⟩⟩
      show Q70 Z li ed ke cap n vs mc dc mir ck gr h0 n0 _ T12.heap _
      rw [e12]
      exact ⟨rfl, _, _, 15, _, N12, f_K_v12, O0_v12, ⟨ELg_v12, FDg_v12, Fw12, FMg_v12, EEg_v12, VN11_v12, LN11_v12, (by rw [List.length_set]; exact hvlg), (by omega), hcpg⟩, own_getset (by rw [hvlg]; omega), Or.inr ⟨hg22, by omega⟩⟩
    · have hn : n = 15 := by omega
      refine Gl.st (fun _ k => XS.icmpNo X0.here hx rfl (hb hby d70_3) rfl (teq ((own_eq n cap (by omega) (by omega)).mpr hnc2 : (Int32.ofNat n) = (Int32.ofNat cap))).2 k) ?_
      show Gl p e below P (s₁.setTop (mkF m 6 #[.val (.ref li), .val (.ref ck), .val (.ref ed), .val (.int (Int32.ofNat n))] []))
      refine Gl.st (fun _ k => XS.aloadN X0.here hx rfl (hb hby d70_6) rfl rfl k) ?_
      show Gl p e below P (s₁.setTop (mkF m 7 #[.val (.ref li), .val (.ref ck), .val (.ref ed), .val (.int (Int32.ofNat n))] [(.ref li)]))
      obtain ⟨cq13, q13, q13'⟩ := EL.cell
      obtain ⟨_, _, ⟨T13, L13, k13, n13⟩, -, X13, ⟨Lc13, hQ13, l13, y13, z13⟩, st13⟩ := X0.privateBack hx (y := (⟨"java/util/ArrayList", "grow", "()[Ljava/lang/Object;"⟩ : MethodName)) hown (mvT hZ (hw _ (List.mem_of_getElem? (i := 80) rfl))) (mvT hZ (hw _ (List.mem_of_getElem? (i := 81) rfl))) (mvT hZ (hw _ (List.mem_of_getElem? (i := 83) rfl))) (Cond.privateMethod_at (mvP hZ (hw _ (List.mem_of_getElem? (i := 82) rfl)) (args := #[]))) (mvT hZ (hw _ (List.mem_of_getElem? (i := 84) rfl))) (by decide) (backOf (W := 0) (rm695 l Z a0 hw [] li ed ke cap n vs mc dc mir h0 n0 Z0 HL hcap hn gi O0 SD MI) hZ (hw _ (List.mem_of_getElem? (i := 84) rfl)) (hw _ (List.mem_of_getElem? (i := 17) rfl)) (Nat.le_of_ble_eq_true rfl) (Nat.le_of_ble_eq_true rfl)) (g := (mkF m 7 #[.val (.ref li), .val (.ref ck), .val (.ref ed), .val (.int (Int32.ofNat n))] [(.ref li)])) rfl (by rw [hml]; rfl) (Steps.refl _) (a := li) (by rw [e0]; exact q13) q13' (argsL := []) (rest := []) (lenOf pd_8 rfl) rfl (by show 2 * 0 + _ ≤ _; exact Nat.le_of_eq rfl) (hb hby d70_7) (fun _ _ => ⟨rfl, e0, (Nat.le_of_ble_eq_true rfl : 0 + 1 ≤ _), (show 0 + 22 ≤ gr by omega)⟩)
      dsimp only [Pt.U, Pt.locs, Pt.cells, Pt.slots] at X13 l13 y13 z13 st13 hQ13
      subst l13 y13 z13
      obtain ⟨ed2, ke2, vs2, rfl, N13q, K13, HL13, gn13⟩ := hQ13
      have N13 := Fr.app N0 N13q
      have Z0_v13 : n0 ≤ T13.heap.size := Nat.le_trans Z0 K13.1
      have EL_v13 : Exa Z T13.heap li "java/util/ArrayList" := EL.keep K13
      have EE_v13 : Exa Z T13.heap ed "[Ljava/lang/Object;" := EE.keep K13
      have f_K_v13 : Keep h0 T13.heap [li, ed] := (Keep.refl h0 [li, ed]).trans K13 (allS (Or.inl (List.mem_of_getElem? (i := 0) rfl)) all0)
      have O0_v13 : Old Z n0 T13.heap := O0.keep K13 (allS gi all0)
      have IC_v13 : own_El Z T13.heap [.ref ck] := own_El_keep K13 IC
      refine Gl.tr st13 ?_
      show Gl p e below P (T13.setTop (mkF m 10 #[.val (.ref li), .val (.ref ck), .val (.ref ed), .val (.int (Int32.ofNat n))] [(.ref ed2)]))
      have g_ed2 : n0 ≤ ed2 := Nat.le_trans Z0 gn13
      obtain ⟨ELg, FDg, FSg, FMg, EEg, VEg, LEg, hvlg, hncg, hcpg⟩ := id HL13
      have nleg : li ≠ ed2 := ELg.neArv VEg (hw _ (List.mem_of_getElem? (i := 16) rfl))
      have OVg : Ovr Z ke2 "java/lang/Object" := by rcases hcpg with ⟨q, -⟩ | ⟨-, -, q⟩; omega; exact q
      refine Gl.st (fun _ k => XS.astoreN X13.here hx rfl (hb hby d70_10) rfl rfl (l' := #[.val (.ref li), .val (.ref ck), .val (.ref ed2), .val (.int (Int32.ofNat n))]) rfl k) ?_
      show Gl p e below P (T13.setTop (mkF m 11 #[.val (.ref li), .val (.ref ck), .val (.ref ed2), .val (.int (Int32.ofNat n))] []))
      refine Gl.st (fun _ k => XS.aloadN X13.here hx rfl (hb hby d70_11) rfl rfl k) ?_
      show Gl p e below P (T13.setTop (mkF m 12 #[.val (.ref li), .val (.ref ck), .val (.ref ed2), .val (.int (Int32.ofNat n))] [(.ref ed2)]))
      refine Gl.st (fun _ k => XS.iloadN X13.here hx rfl (hb hby d70_12) rfl k) ?_
      show Gl p e below P (T13.setTop (mkF m 13 #[.val (.ref li), .val (.ref ck), .val (.ref ed2), .val (.int (Int32.ofNat n))] [(.int (Int32.ofNat n)), (.ref ed2)]))
      refine Gl.st (fun _ k => XS.aloadN X13.here hx rfl (hb hby d70_13) rfl rfl k) ?_
      show Gl p e below P (T13.setTop (mkF m 14 #[.val (.ref li), .val (.ref ck), .val (.ref ed2), .val (.int (Int32.ofNat n))] [(.ref ck), (.int (Int32.ofNat n)), (.ref ed2)]))
      obtain ⟨c14, Ar14, q14, S14, M14, H14, U14⟩ := id VEg
      obtain ⟨T15, h15, X15, e15, W15, st15⟩ := stR X13 hx hZ rfl Ar14 (j := (Int32.ofNat n)) (inb_of S14 ⟨own_neg n (by omega), (own_lt n 22 (by omega) (by omega)).mpr (by omega)⟩) rfl (own_StoL VEg OVg _ IC_v13).1 (g := (mkF m 14 #[.val (.ref li), .val (.ref ck), .val (.ref ed2), .val (.int (Int32.ofNat n))] [(.ref ck), (.int (Int32.ofNat n)), (.ref ed2)])) rfl rfl (hb hby d70_14)
      refine Gl.st st15 ?_
      have Z0_v15 : n0 ≤ h15.size := Nat.le_trans Z0_v13 (Keep.of_wr W15).1
      have ELg_v15 : Exa Z h15 li "java/util/ArrayList" := ELg.wr W15
      have f_K_v15 : Keep h0 h15 [li, ed] := f_K_v13.wr W15 (Or.inr gn13)
      have O0_v15 : Old Z n0 h15 := O0_v13.wr W15 g_ed2
      have IC_v15 : own_El Z h15 [.ref ck] := own_El_wr W15 IC_v13
      have FDg_v15 : Fld Z h15 li "java/util/ArrayList" "elementData" "[Ljava/lang/Object;" (.ref ed2) := FDg.other W15 (Or.inl nleg)
      have FSg_v15 : Fld Z h15 li "java/util/ArrayList" "size" "I" (.int (Int32.ofNat n)) := FSg.other W15 (Or.inl nleg)
      have FMg_v15 : Fld Z h15 li "java/util/AbstractList" "modCount" "I" (.int mc) := FMg.other W15 (Or.inl nleg)
      have EEg_v15 : Exa Z h15 ed2 "[Ljava/lang/Object;" := EEg.wr W15
      have LEg_v15 : own_El Z h15 vs2 := own_El_wr W15 LEg
      have VN15 : Arv Z h15 ed2 ke2 (.object "java/lang/Object") (Int32.ofNat 22) (vs2.set n (.ref ck)) .null := Arv.set Ar14 q14 S14 M14 H14 U14 rfl W15 _ (own_nn n (by omega)) (by rw [hvlg]; omega)
      have LN15 : own_El Z h15 (vs2.set n (.ref ck)) := own_El_set LEg_v15 (IC_v15 _ (List.mem_singleton.mpr rfl)) n
      have N15 := Fr.snoc X15 N13 g_ed2
      show Gl p e below P (T15.setTop (mkF m 15 #[.val (.ref li), .val (.ref ck), .val (.ref ed2), .val (.int (Int32.ofNat n))] []))
      refine Gl.st (fun _ k => XS.aloadN X15.here hx rfl (hb hby d70_15) rfl rfl k) ?_
      show Gl p e below P (T15.setTop (mkF m 16 #[.val (.ref li), .val (.ref ck), .val (.ref ed2), .val (.int (Int32.ofNat n))] [(.ref li)]))
      refine Gl.st (fun _ k => XS.iloadN X15.here hx rfl (hb hby d70_16) rfl k) ?_
      show Gl p e below P (T15.setTop (mkF m 17 #[.val (.ref li), .val (.ref ck), .val (.ref ed2), .val (.int (Int32.ofNat n))] [(.int (Int32.ofNat n)), (.ref li)]))
      refine Gl.st (fun _ k => XS.iconst X15.here hx rfl (hb hby d70_17) k) ?_
      show Gl p e below P (T15.setTop (mkF m 18 #[.val (.ref li), .val (.ref ck), .val (.ref ed2), .val (.int (Int32.ofNat n))] [(.int (1 : Int32)), (.int (Int32.ofNat n)), (.ref li)]))
      refine Gl.st (fun _ k => XS.iadd X15.here hx rfl (hb hby d70_18) rfl k) ?_
      show Gl p e below P (T15.setTop (mkF m 19 #[.val (.ref li), .val (.ref ck), .val (.ref ed2), .val (.int (Int32.ofNat n))] [(.int ((Int32.ofNat n) + (1 : Int32))), (.ref li)]))
      rw [show ((Int32.ofNat n) + (1 : Int32)) = (Int32.ofNat (n + 1)) from own_s n]
      show Gl p e below P (T15.setTop (mkF m 19 #[.val (.ref li), .val (.ref ck), .val (.ref ed2), .val (.int (Int32.ofNat n))] [(.int (Int32.ofNat (n + 1))), (.ref li)]))
      obtain ⟨T16, h16, X16, e16, W16, st16⟩ := putF X15 hx hZ hown (host := "") (Or.inl (hw _ (List.mem_of_getElem? (i := 61) rfl))) Via.refl e15 FSg_v15 ELg_v15 (Or.inl (hw _ (List.mem_of_getElem? (i := 62) rfl))) (hw _ (List.mem_of_getElem? (i := 16) rfl)) (ty := .int) (by decide) rfl rfl (g := (mkF m 19 #[.val (.ref li), .val (.ref ck), .val (.ref ed2), .val (.int (Int32.ofNat n))] [(.int (Int32.ofNat (n + 1))), (.ref li)])) rfl rfl (hb hby d70_19)
      refine Gl.st st16 ?_
      have Z0_v16 : n0 ≤ h16.size := Nat.le_trans Z0_v15 (Keep.of_wr W16).1
      have ELg_v16 : Exa Z h16 li "java/util/ArrayList" := ELg_v15.wr W16
      have f_K_v16 : Keep h0 h16 [li, ed] := f_K_v15.wr W16 (Or.inl (List.mem_of_getElem? (i := 0) rfl))
      have O0_v16 : Old Z n0 h16 := O0_v15.wr W16 gi
      have IC_v16 : own_El Z h16 [.ref ck] := own_El_wr W16 IC_v15
      have FDg_v16 : Fld Z h16 li "java/util/ArrayList" "elementData" "[Ljava/lang/Object;" (.ref ed2) := FDg_v15.other W16 (Or.inr (slot_ne (Or.inl (hw _ (List.mem_of_getElem? (i := 38) rfl))) (Or.inl (hw _ (List.mem_of_getElem? (i := 62) rfl))) (by decide) (t := (.array (.object "java/lang/Object"))) (t' := .int) (by decide) (by decide)))
      have FMg_v16 : Fld Z h16 li "java/util/AbstractList" "modCount" "I" (.int mc) := FMg_v15.other W16 (Or.inr (slot_ne (Or.inl (hw _ (List.mem_of_getElem? (i := 35) rfl))) (Or.inl (hw _ (List.mem_of_getElem? (i := 62) rfl))) (by decide) (t := .int) (t' := .int) (by decide) (by decide)))
      have EEg_v16 : Exa Z h16 ed2 "[Ljava/lang/Object;" := EEg_v15.wr W16
      have VN15_v16 : Arv Z h16 ed2 ke2 (.object "java/lang/Object") (Int32.ofNat 22) (vs2.set n (.ref ck)) .null := VN15.other W16 (Ne.symm nleg)
      have LN15_v16 : own_El Z h16 (vs2.set n (.ref ck)) := own_El_wr W16 LN15
      have Fw16 : Fld Z h16 li "java/util/ArrayList" "size" "I" (.int (Int32.ofNat (n + 1))) := FSg_v15.same W16
      have N16 := Fr.snoc X16 N15 gi
      show Gl p e below P (T16.setTop (mkF m 22 #[.val (.ref li), .val (.ref ck), .val (.ref ed2), .val (.int (Int32.ofNat n))] []))
      obtain ⟨fs, hr, hrun, hended, hW, hsame⟩ := X16.leave (v := none) (fun _ => rfl)
      refine ⟨_, _, X16.returnOut hx Bd.returns (hb hby d70_22) hr, hrun, hended, hPost _ _ ⟨_, _, rfl, ?_, ⟨_, rfl⟩, hW, hsame.mono (show 1 ≤ 1 by omega) (show 22 ≤ gr by omega)⟩⟩
      show Q70 Z li ed ke cap n vs mc dc mir ck gr h0 n0 _ T16.heap _
      rw [e16]
      exact ⟨rfl, _, _, 22, _, N16, f_K_v16, O0_v16, ⟨ELg_v16, FDg_v16, Fw16, FMg_v16, EEg_v16, VN15_v16, LN15_v16, (by rw [List.length_set]; exact hvlg), (by omega), hcpg⟩, own_getset (by rw [hvlg]; omega), Or.inr ⟨hg22, by omega⟩⟩
theorem pn_71 : plainName "java/util/ArrayList" = true := by first | (simp [plainName, overriddenIn]; done) | decide +kernel
theorem ef_71 (m : MethodId) (x0 : Addr) (x1 : Addr) : entryFrame m #[(.ref x0), (.ref x1)] 2 = mkF m 0 #[.val (.ref x0), .val (.ref x1)] [] := by first | (simp [entryFrame, mkF, argsToLocals, Value.category]; done) | rfl
def Q71 (Z : State) (li : Addr) (ed : Addr) (ke : ClassId) (cap : Nat) (n : Nat) (vs : List Value) (mc : Int32) (dc : Addr) (mir : Addr) (ck : Addr) (gr : Nat) (h0 : Heap) (n0 : Nat) (v : Option Value) (h : Heap) (L : List Loc) : Prop := v = some (.int (1 : Int32)) ∧ ∃ ed2 ke2 cap2 vs2 mc2, Fr n0 L ∧ Keep h0 h [li, ed] ∧ Old Z n0 h ∧ own_Ls Z n0 dc h li ed2 ke2 cap2 (n + 1) vs2 mc2 ∧ vs2.getD n .null = .ref ck ∧ own_nx gr cap cap2
set_option maxRecDepth 65536 in
set_option maxHeartbeats 40000000 in
theorem rm71 (l : Launch) (Z : State) (a0 : Array Value) (hw : ∀ d ∈ tables_1, d.before a0 Z = true) (ws : List Jvm.Cond) (li : Addr) (ed : Addr) (ke : ClassId) (cap : Nat) (n : Nat) (vs : List Value) (mc : Int32) (dc : Addr) (mir : Addr) (ck : Addr) (gr : Nat) (h0 : Heap) (n0 : Nat) (Z0 : n0 ≤ h0.size) (HL : own_Ls Z n0 dc h0 li ed ke cap n vs mc) (IC : own_El Z h0 [.ref ck]) (hgr : (n < cap ∧ gr = 0) ∨ (n = cap ∧ n ≤ 16 ∧ gr = 22)) (gi : n0 ≤ li) (O0 : Old Z n0 h0) (SD : Sta Z Z.heap "java/util/ArrayList" "DEFAULTCAPACITY_EMPTY_ELEMENTDATA" "[Ljava/lang/Object;" (.ref dc)) (MI : Mir Z "[Ljava/lang/Object;" mir) :
    MetFree l (⟨"java/util/ArrayList", "add", "(Ljava/lang/Object;)Z"⟩ : MethodName) (head1 (Jvm.Cond.code (⟨"java/util/ArrayList", "add", "(Ljava/lang/Object;)Z"⟩ : MethodName) jdk_38_method_25_code 2 (some .boolean) :: ws) ({ frames := 6, cells := 1, slots := gr, locals := 140 } : Room)) (fun a U => a = #[(.ref li), (.ref ck)] ∧ Z.Warmed39 U.vm ∧ U.heap = h0) (fun _ _ _ _ _ => True) (fun _ U o U' => ∃ v L, o = .returned v ∧ Q71 Z li ed ke cap n vs mc dc mir ck gr h0 n0 v U'.heap L ∧ FrameEnd U o U' L ({ frames := 6, cells := 1, slots := gr, locals := 140 } : Room).cells ({ frames := 6, cells := 1, slots := gr, locals := 140 } : Room).slots) := by
  refine MetFree.of_bodySF (plainFor_of_name pn_71) hisR ?_
  intro p e s m args below meth c s₁ Bd hml0 hP hK
  obtain ⟨rfl, hZ, hh⟩ := hP
  have hx := Bd.exec
  have hby := Bd.bytes
  have hml : c.maxLocals = 2 := hml0
  have hown : s.vm.findClass "java/util/ArrayList" = some m.cls := findClass_of_methodNamed Bd.named
  have hnm := (name_of_methodNamed Bd.named Bd.method).1
  have X0 : Stand p l e ({ frames := 6, cells := 1, slots := gr, locals := 140 } : Room) s m #[(.ref li), (.ref ck)] below meth c s₁ [] 0 0 := Stand.of_body Bd
  have e0 : s₁.heap = h0 := by rw [← hh, Bd.state]; rfl
  have N0 := Fr.nil n0
  refine Gl.gen fun P hPost => ?_
  refine Gl.st (fun _ k => castTop (ef_71 m li ck ) k) ?_
  show Gl p e below P (s₁.setTop (mkF m 0 #[.val (.ref li), .val (.ref ck)] []))
  obtain ⟨EL, FD, FS, FM, EE, VE, LE, hvl, hnc, hcp⟩ := id HL
  have nle : li ≠ ed := EL.neArv VE (hw _ (List.mem_of_getElem? (i := 16) rfl))
  refine Gl.st (fun _ k => XS.aloadN X0.here hx rfl (hb hby d71_0) rfl rfl k) ?_
  show Gl p e below P (s₁.setTop (mkF m 1 #[.val (.ref li), .val (.ref ck)] [(.ref li)]))
  refine Gl.st (fun _ k => XS.dup X0.here hx rfl (hb hby d71_1) rfl rfl k) ?_
  show Gl p e below P (s₁.setTop (mkF m 2 #[.val (.ref li), .val (.ref ck)] [(.ref li), (.ref li)]))
  obtain ⟨T1, X1, e1, st1⟩ := getF X0 hx hZ hown (host := "") (Or.inl (hw _ (List.mem_of_getElem? (i := 73) rfl))) (Via.of (hw _ (List.mem_of_getElem? (i := 74) rfl))) e0 FM (g := (mkF m 2 #[.val (.ref li), .val (.ref ck)] [(.ref li), (.ref li)])) rfl rfl (hb hby d71_2)
  refine Gl.st st1 ?_
  show Gl p e below P (T1.setTop (mkF m 5 #[.val (.ref li), .val (.ref ck)] [(.int mc), (.ref li)]))
  refine Gl.st (fun _ k => XS.iconst X1.here hx rfl (hb hby d71_5) k) ?_
  show Gl p e below P (T1.setTop (mkF m 6 #[.val (.ref li), .val (.ref ck)] [(.int (1 : Int32)), (.int mc), (.ref li)]))
  refine Gl.st (fun _ k => XS.iadd X1.here hx rfl (hb hby d71_6) rfl k) ?_
  show Gl p e below P (T1.setTop (mkF m 7 #[.val (.ref li), .val (.ref ck)] [(.int (mc + (1 : Int32))), (.ref li)]))
  obtain ⟨T2, h2, X2, e2, W2, st2⟩ := putF X1 hx hZ hown (host := "") (Or.inl (hw _ (List.mem_of_getElem? (i := 73) rfl))) (Via.of (hw _ (List.mem_of_getElem? (i := 74) rfl))) e1 FM EL (Or.inl (hw _ (List.mem_of_getElem? (i := 35) rfl))) (hw _ (List.mem_of_getElem? (i := 16) rfl)) (ty := .int) (by decide) rfl rfl (g := (mkF m 7 #[.val (.ref li), .val (.ref ck)] [(.int (mc + (1 : Int32))), (.ref li)])) rfl rfl (hb hby d71_7)
  refine Gl.st st2 ?_
  have Z0_v2 : n0 ≤ h2.size := Nat.le_trans Z0 (Keep.of_wr W2).1
  have EL_v2 : Exa Z h2 li "java/util/ArrayList" := EL.wr W2
  have FD_v2 : Fld Z h2 li "java/util/ArrayList" "elementData" "[Ljava/lang/Object;" (.ref ed) := FD.other W2 (Or.inr (slot_ne (Or.inl (hw _ (List.mem_of_getElem? (i := 38) rfl))) (Or.inl (hw _ (List.mem_of_getElem? (i := 35) rfl))) (by decide) (t := (.array (.object "java/lang/Object"))) (t' := .int) (by decide) (by decide)))
  have FS_v2 : Fld Z h2 li "java/util/ArrayList" "size" "I" (.int (Int32.ofNat n)) := FS.other W2 (Or.inr (slot_ne (Or.inl (hw _ (List.mem_of_getElem? (i := 62) rfl))) (Or.inl (hw _ (List.mem_of_getElem? (i := 35) rfl))) (by decide) (t := .int) (t' := .int) (by decide) (by decide)))
  have EE_v2 : Exa Z h2 ed "[Ljava/lang/Object;" := EE.wr W2
  have VE_v2 : Arv Z h2 ed ke (.object "java/lang/Object") (Int32.ofNat cap) vs .null := VE.other W2 (Ne.symm nle)
  have LE_v2 : own_El Z h2 vs := own_El_wr W2 LE
  have f_K_v2 : Keep h0 h2 [li, ed] := (Keep.refl h0 [li, ed]).wr W2 (Or.inl (List.mem_of_getElem? (i := 0) rfl))
  have O0_v2 : Old Z n0 h2 := O0.wr W2 gi
  have IC_v2 : own_El Z h2 [.ref ck] := own_El_wr W2 IC
  have Fw2 : Fld Z h2 li "java/util/AbstractList" "modCount" "I" (.int (mc + (1 : Int32))) := FM.same W2
  have N2 := Fr.snoc X2 N0 gi
  show Gl p e below P (T2.setTop (mkF m 10 #[.val (.ref li), .val (.ref ck)] []))
  refine Gl.st (fun _ k => XS.aloadN X2.here hx rfl (hb hby d71_10) rfl rfl k) ?_
  show Gl p e below P (T2.setTop (mkF m 11 #[.val (.ref li), .val (.ref ck)] [(.ref li)]))
  refine Gl.st (fun _ k => XS.aloadN X2.here hx rfl (hb hby d71_11) rfl rfl k) ?_
  show Gl p e below P (T2.setTop (mkF m 12 #[.val (.ref li), .val (.ref ck)] [(.ref ck), (.ref li)]))
  refine Gl.st (fun _ k => XS.aloadN X2.here hx rfl (hb hby d71_12) rfl rfl k) ?_
  show Gl p e below P (T2.setTop (mkF m 13 #[.val (.ref li), .val (.ref ck)] [(.ref li), (.ref ck), (.ref li)]))
  obtain ⟨T3, X3, e3, st3⟩ := getF X2 hx hZ hown (host := "") (Or.inl (hw _ (List.mem_of_getElem? (i := 37) rfl))) Via.refl e2 FD_v2 (g := (mkF m 13 #[.val (.ref li), .val (.ref ck)] [(.ref li), (.ref ck), (.ref li)])) rfl rfl (hb hby d71_13)
  refine Gl.st st3 ?_
  show Gl p e below P (T3.setTop (mkF m 16 #[.val (.ref li), .val (.ref ck)] [(.ref ed), (.ref ck), (.ref li)]))
  refine Gl.st (fun _ k => XS.aloadN X3.here hx rfl (hb hby d71_16) rfl rfl k) ?_
  show Gl p e below P (T3.setTop (mkF m 17 #[.val (.ref li), .val (.ref ck)] [(.ref li), (.ref ed), (.ref ck), (.ref li)]))
  obtain ⟨T4, X4, e4, st4⟩ := getF X3 hx hZ hown (host := "") (Or.inl (hw _ (List.mem_of_getElem? (i := 61) rfl))) Via.refl e3 FS_v2 (g := (mkF m 17 #[.val (.ref li), .val (.ref ck)] [(.ref li), (.ref ed), (.ref ck), (.ref li)])) rfl rfl (hb hby d71_17)
  refine Gl.st st4 ?_
  show Gl p e below P (T4.setTop (mkF m 20 #[.val (.ref li), .val (.ref ck)] [(.int (Int32.ofNat n)), (.ref ed), (.ref ck), (.ref li)]))
  obtain ⟨cq5, q5, q5'⟩ := EL_v2.cell
  obtain ⟨_, _, ⟨T5, L5, k5, n5⟩, -, X5, ⟨Lc5, hQ5, l5, y5, z5⟩, st5⟩ := X4.privateBack hx (y := (⟨"java/util/ArrayList", "add", "(Ljava/lang/Object;[Ljava/lang/Object;I)V"⟩ : MethodName)) hown (mvT hZ (hw _ (List.mem_of_getElem? (i := 75) rfl))) (mvT hZ (hw _ (List.mem_of_getElem? (i := 76) rfl))) (mvT hZ (hw _ (List.mem_of_getElem? (i := 78) rfl))) (Cond.privateMethod_at (mvP hZ (hw _ (List.mem_of_getElem? (i := 77) rfl)) (args := #[]))) (mvT hZ (hw _ (List.mem_of_getElem? (i := 79) rfl))) (by decide) (backOf (W := 0) (rm70 l Z a0 hw [] li ed ke cap n vs (mc + (1 : Int32)) dc mir ck gr h2 n0 Z0_v2 ⟨EL_v2, FD_v2, FS_v2, Fw2, EE_v2, VE_v2, LE_v2, hvl, hnc, hcp⟩ IC_v2 hgr gi O0_v2 SD MI) hZ (hw _ (List.mem_of_getElem? (i := 79) rfl)) (hw _ (List.mem_of_getElem? (i := 17) rfl)) (Nat.le_of_ble_eq_true rfl) (Nat.le_of_ble_eq_true rfl)) (g := (mkF m 20 #[.val (.ref li), .val (.ref ck)] [(.int (Int32.ofNat n)), (.ref ed), (.ref ck), (.ref li)])) rfl (by rw [hml]; rfl) (Steps.refl _) (a := li) (by rw [e4]; exact q5) q5' (argsL := [(.ref ck), (.ref ed), (.int (Int32.ofNat n))]) (rest := []) (lenOf pd_9 rfl) rfl (by show 2 * 0 + _ ≤ _; exact Nat.le_of_eq rfl) (hb hby d71_20) (fun _ _ => ⟨rfl, e4, (Nat.le_of_ble_eq_true rfl : 0 + 1 ≤ _), (show 0 + gr ≤ gr by omega)⟩)
  dsimp only [Pt.U, Pt.locs, Pt.cells, Pt.slots] at X5 l5 y5 z5 st5 hQ5
  subst l5 y5 z5
  obtain ⟨rfl, ed2, ke2, cap2, vs2, N5q, K5, O5q, HL5, gd5, nx5⟩ := hQ5
  have N5 := Fr.app N2 N5q
  have Z0_v5 : n0 ≤ T5.heap.size := Nat.le_trans Z0_v2 K5.1
  have EL_v5 : Exa Z T5.heap li "java/util/ArrayList" := EL_v2.keep K5
  have f_K_v5 : Keep h0 T5.heap [li, ed] := f_K_v2.trans K5 (allS (Or.inl (List.mem_of_getElem? (i := 0) rfl)) (allS (Or.inl (List.mem_of_getElem? (i := 1) rfl)) all0))
  have IC_v5 : own_El Z T5.heap [.ref ck] := own_El_keep K5 IC_v2
  refine Gl.tr st5 ?_
  show Gl p e below P (T5.setTop (mkF m 23 #[.val (.ref li), .val (.ref ck)] []))
  refine Gl.st (fun _ k => XS.iconst X5.here hx rfl (hb hby d71_23) k) ?_
  show Gl p e below P (T5.setTop (mkF m 24 #[.val (.ref li), .val (.ref ck)] [(.int (1 : Int32))]))
  obtain ⟨fs, hr, hrun, hended, hW, hsame⟩ := X5.leave (v := some (.int (1 : Int32))) (fun h => by rw [Bd.returns] at h; cases h)
  refine ⟨_, _, retN X5 hx (t := .boolean) Bd.returns (by simp) (hb hby d71_24) hr, hrun, hended, hPost _ _ ⟨_, _, rfl, ?_, ⟨_, rfl⟩, hW, hsame.mono (show 1 ≤ 1 by omega) (show (0 + gr) ≤ gr by omega)⟩⟩
  show Q71 Z li ed ke cap n vs mc dc mir ck gr h0 n0 _ T5.heap _
  exact ⟨rfl, _, _, _, _, _, N5, f_K_v5, O5q, HL5, gd5, nx5⟩
theorem pn_72 : plainName "com/example/cotab/cotab/ChunkedBytes" = true := by first | (simp [plainName, overriddenIn]; done) | decide +kernel
theorem ef_72 (m : MethodId) (x0 : Addr) : entryFrame m #[(.ref x0)] 2 = mkF m 0 #[.val (.ref x0), .unset] [] := by first | (simp [entryFrame, mkF, argsToLocals, Value.category]; done) | rfl
def Q72 (Z : State) (ob : Addr) (li : Addr) (ed : Addr) (ke : ClassId) (cap : Nat) (n : Nat) (vs : List Value) (mc : Int32) (dc : Addr) (cb : Nat) (sz : Nat) (rr : Nat) (h0 : Heap) (n0 : Nat) (v : Option Value) (h : Heap) (L : List Loc) : Prop := v = some (.int (Int32.ofNat rr)) ∧ Fr n0 L ∧ h = h0
set_option maxRecDepth 65536 in
set_option maxHeartbeats 40000000 in
theorem rm72 (l : Launch) (Z : State) (a0 : Array Value) (hw : ∀ d ∈ tables_1, d.before a0 Z = true) (ws : List Jvm.Cond) (ob : Addr) (li : Addr) (ed : Addr) (ke : ClassId) (cap : Nat) (n : Nat) (vs : List Value) (mc : Int32) (dc : Addr) (cb : Nat) (sz : Nat) (rr : Nat) (h0 : Heap) (n0 : Nat) (Z0 : n0 ≤ h0.size) (HO : own_Ob Z h0 ob li cb sz) (HL : own_Ls Z n0 dc h0 li ed ke cap n vs mc) (hP : n * cb = sz + rr) (hr : 1 ≤ rr) (hr4 : rr ≤ 40) :
    MetFree l (⟨"com/example/cotab/cotab/ChunkedBytes", "room", "()I"⟩ : MethodName) (head1 (Jvm.Cond.code (⟨"com/example/cotab/cotab/ChunkedBytes", "room", "()I"⟩ : MethodName) prog_2_method_9_code 2 (some .int) :: ws) ({ frames := 1, cells := 0, slots := 0, locals := 14 } : Room)) (fun a U => a = #[(.ref ob)] ∧ Z.Warmed39 U.vm ∧ U.heap = h0) (fun _ _ _ _ _ => True) (fun _ U o U' => ∃ v L, o = .returned v ∧ Q72 Z ob li ed ke cap n vs mc dc cb sz rr h0 n0 v U'.heap L ∧ FrameEnd U o U' L ({ frames := 1, cells := 0, slots := 0, locals := 14 } : Room).cells ({ frames := 1, cells := 0, slots := 0, locals := 14 } : Room).slots) := by
  refine MetFree.of_bodySF (plainFor_of_name pn_72) hisR ?_
  intro p e s m args below meth c s₁ Bd hml0 hP hK
  obtain ⟨rfl, hZ, hh⟩ := hP
  have hx := Bd.exec
  have hby := Bd.bytes
  have hml : c.maxLocals = 2 := hml0
  have hown : s.vm.findClass "com/example/cotab/cotab/ChunkedBytes" = some m.cls := findClass_of_methodNamed Bd.named
  have hnm := (name_of_methodNamed Bd.named Bd.method).1
  have X0 : Stand p l e ({ frames := 1, cells := 0, slots := 0, locals := 14 } : Room) s m #[(.ref ob)] below meth c s₁ [] 0 0 := Stand.of_body Bd
  have e0 : s₁.heap = h0 := by rw [← hh, Bd.state]; rfl
  have N0 := Fr.nil n0
  refine Gl.gen fun P hPost => ?_
  refine Gl.st (fun _ k => castTop (ef_72 m ob ) k) ?_
  show Gl p e below P (s₁.setTop (mkF m 0 #[.val (.ref ob), .unset] []))
  obtain ⟨EO, FC, FB, FZ⟩ := id HO
  obtain ⟨EL, FD, FS, FM, EE, VE, LE, hvl, hnc, hcp⟩ := id HL
  have nle : li ≠ ed := EL.neArv VE (hw _ (List.mem_of_getElem? (i := 16) rfl))
  refine Gl.st (fun _ k => XS.aloadN X0.here hx rfl (hb hby d72_0) rfl rfl k) ?_
  show Gl p e below P (s₁.setTop (mkF m 1 #[.val (.ref ob), .unset] [(.ref ob)]))
  obtain ⟨T1, X1, e1, st1⟩ := getF X0 hx hZ hown (host := "") (Or.inl (hw _ (List.mem_of_getElem? (i := 39) rfl))) Via.refl e0 FC (g := (mkF m 1 #[.val (.ref ob), .unset] [(.ref ob)])) rfl rfl (hb hby d72_1)
  refine Gl.st st1 ?_
  show Gl p e below P (T1.setTop (mkF m 4 #[.val (.ref ob), .unset] [(.ref li)]))
  obtain ⟨cq2, kq2, q2a, q2b, q2c⟩ := isOf hZ e1 EL
  obtain ⟨_, _, ⟨T2, L2, k2, n2⟩, -, X2, ⟨Lc2, hQ2, l2, y2, z2⟩, st2⟩ := X1.interfaceBack hx (xi := (⟨"java/util/List", "size", "()I"⟩ : MethodName)) (y := (⟨"java/util/ArrayList", "size", "()I"⟩ : MethodName)) hown (mvT hZ (hw _ (List.mem_of_getElem? (i := 52) rfl))) (mvT hZ (hw _ (List.mem_of_getElem? (i := 53) rfl))) (mvT hZ (hw _ (List.mem_of_getElem? (i := 54) rfl))) (mvT hZ (hw _ (List.mem_of_getElem? (i := 55) rfl))) (mvT hZ (hw _ (List.mem_of_getElem? (i := 56) rfl))) (mvT hZ (hw _ (List.mem_of_getElem? (i := 57) rfl))) (mvT hZ (hw _ (List.mem_of_getElem? (i := 58) rfl))) (mvT hZ (hw _ (List.mem_of_getElem? (i := 59) rfl))) (by decide) (backOf (W := 0) (rm45 l Z a0 hw [] li (Int32.ofNat n) h0 n0 Z0 EL FS) hZ (hw _ (List.mem_of_getElem? (i := 60) rfl)) (hw _ (List.mem_of_getElem? (i := 17) rfl)) (Nat.le_of_ble_eq_true rfl) (Nat.le_of_ble_eq_true rfl)) q2a q2b q2c (g := (mkF m 4 #[.val (.ref ob), .unset] [(.ref li)])) rfl (by rw [hml]; rfl) (Steps.refl _) (argsL := []) (rest := []) (lenOf pd_10 rfl) rfl (by show 2 * 0 + _ ≤ _; exact Nat.le_of_eq rfl) (hb hby d72_4) (fun _ _ => ⟨rfl, e1, (by decide : 0 + 0 ≤ _), (by decide : 0 + 0 ≤ _)⟩)
  dsimp only [Pt.U, Pt.locs, Pt.cells, Pt.slots] at X2 l2 y2 z2 st2 hQ2
  subst l2 y2 z2
  obtain ⟨rfl, N2q, e2⟩ := hQ2
  have N2 := Fr.app N0 N2q
  refine Gl.tr st2 ?_
  show Gl p e below P (T2.setTop (mkF m 9 #[.val (.ref ob), .unset] [(.int (Int32.ofNat n))]))
  refine Gl.st (fun _ k => XS.aloadN X2.here hx rfl (hb hby d72_9) rfl rfl k) ?_
  show Gl p e below P (T2.setTop (mkF m 10 #[.val (.ref ob), .unset] [(.ref ob), (.int (Int32.ofNat n))]))
  obtain ⟨T3, X3, e3, st3⟩ := getF X2 hx hZ hown (host := "") (Or.inl (hw _ (List.mem_of_getElem? (i := 41) rfl))) Via.refl e2 FB (g := (mkF m 10 #[.val (.ref ob), .unset] [(.ref ob), (.int (Int32.ofNat n))])) rfl rfl (hb hby d72_10)
  refine Gl.st st3 ?_
  show Gl p e below P (T3.setTop (mkF m 13 #[.val (.ref ob), .unset] [(.int (Int32.ofNat cb)), (.int (Int32.ofNat n))]))
  refine Gl.st (fun _ k => XS.imul X3.here hx rfl (hb hby d72_13) rfl k) ?_
  show Gl p e below P (T3.setTop (mkF m 14 #[.val (.ref ob), .unset] [(.int ((Int32.ofNat n) * (Int32.ofNat cb)))]))
  refine Gl.st (fun _ k => XS.aloadN X3.here hx rfl (hb hby d72_14) rfl rfl k) ?_
  show Gl p e below P (T3.setTop (mkF m 15 #[.val (.ref ob), .unset] [(.ref ob), (.int ((Int32.ofNat n) * (Int32.ofNat cb)))]))
  obtain ⟨T4, X4, e4, st4⟩ := getF X3 hx hZ hown (host := "") (Or.inl (hw _ (List.mem_of_getElem? (i := 63) rfl))) Via.refl e3 FZ (g := (mkF m 15 #[.val (.ref ob), .unset] [(.ref ob), (.int ((Int32.ofNat n) * (Int32.ofNat cb)))])) rfl rfl (hb hby d72_15)
  refine Gl.st st4 ?_
  show Gl p e below P (T4.setTop (mkF m 18 #[.val (.ref ob), .unset] [(.int (Int32.ofNat sz)), (.int ((Int32.ofNat n) * (Int32.ofNat cb)))]))
  refine Gl.st (fun _ k => XS.isub X4.here hx rfl (hb hby d72_18) rfl k) ?_
  show Gl p e below P (T4.setTop (mkF m 19 #[.val (.ref ob), .unset] [(.int (((Int32.ofNat n) * (Int32.ofNat cb)) - (Int32.ofNat sz)))]))
  rw [show (((Int32.ofNat n) * (Int32.ofNat cb)) - (Int32.ofNat sz)) = (Int32.ofNat rr) from own_room hP]
  show Gl p e below P (T4.setTop (mkF m 19 #[.val (.ref ob), .unset] [(.int (Int32.ofNat rr))]))
  refine Gl.st (fun _ k => XS.istoreN X4.here hx rfl (hb hby d72_19) rfl (l' := #[.val (.ref ob), .val (.int (Int32.ofNat rr))]) rfl k) ?_
  show Gl p e below P (T4.setTop (mkF m 20 #[.val (.ref ob), .val (.int (Int32.ofNat rr))] []))
  refine Gl.st (fun _ k => XS.iloadN X4.here hx rfl (hb hby d72_20) rfl k) ?_
  show Gl p e below P (T4.setTop (mkF m 21 #[.val (.ref ob), .val (.int (Int32.ofNat rr))] [(.int (Int32.ofNat rr))]))
  refine Gl.st (fun _ k => XS.ifYes X4.here hx rfl (pc0 := 21) (pc' := 45) rfl (hb hby d72_21) rfl ((if0 _ _).trans (feq (fun q => absurd ((own_eq rr 0 hr4 (by omega)).mp q) (by omega) : ¬ ((Int32.ofNat rr) = (0 : Int32)))).2) (by decide) (by decide) k) ?_
  show Gl p e below P (T4.setTop (mkF m 45 #[.val (.ref ob), .val (.int (Int32.ofNat rr))] []))
  refine Gl.st (fun _ k => XS.iloadN X4.here hx rfl (hb hby d72_45) rfl k) ?_
  show Gl p e below P (T4.setTop (mkF m 46 #[.val (.ref ob), .val (.int (Int32.ofNat rr))] [(.int (Int32.ofNat rr))]))
  obtain ⟨fs, hr, hrun, hended, hW, hsame⟩ := X4.leave (v := some (.int (Int32.ofNat rr))) (fun h => by rw [Bd.returns] at h; cases h)
  refine ⟨_, _, retOut X4 hx Bd.returns rfl (Or.inl ⟨rfl, Or.inl rfl, _, rfl⟩) (hb hby d72_46) hr, hrun, hended, hPost _ _ ⟨_, _, rfl, ?_, ⟨_, rfl⟩, hW, hsame.mono (by decide) (by decide)⟩⟩
  show Q72 Z ob li ed ke cap n vs mc dc cb sz rr h0 n0 _ T4.heap _
  rw [e4]
  exact ⟨rfl, N2, rfl⟩
theorem pn_73 : plainName "com/example/cotab/cotab/ChunkedBytes" = true := by first | (simp [plainName, overriddenIn]; done) | decide +kernel
theorem ef_73 (m : MethodId) (x0 : Addr) : entryFrame m #[(.ref x0)] 2 = mkF m 0 #[.val (.ref x0), .unset] [] := by first | (simp [entryFrame, mkF, argsToLocals, Value.category]; done) | rfl
def Q73 (Z : State) (ob : Addr) (li : Addr) (ed : Addr) (ke : ClassId) (cap : Nat) (n : Nat) (vs : List Value) (mc : Int32) (dc : Addr) (cb : Nat) (sz : Nat) (mir : Addr) (gr : Nat) (h0 : Heap) (n0 : Nat) (v : Option Value) (h : Heap) (L : List Loc) : Prop := v = some (.int (Int32.ofNat cb)) ∧ ∃ ed2 ke2 cap2 vs2 mc2 ck kk, Fr n0 L ∧ Keep h0 h [li, ed] ∧ Old Z n0 h ∧ own_Ls Z n0 dc h li ed2 ke2 cap2 (n + 1) vs2 mc2 ∧ vs2.getD n .null = .ref ck ∧ own_nx gr cap cap2 ∧ Exa Z h ck "[B" ∧ Arv Z h ck kk .byte (Int32.ofNat cb) (List.replicate cb (.int (0 : Int32))) (.int (0 : Int32)) ∧ h0.size ≤ ck
set_option maxRecDepth 65536 in
set_option maxHeartbeats 40000000 in
theorem rm73 (l : Launch) (Z : State) (a0 : Array Value) (hw : ∀ d ∈ tables_1, d.before a0 Z = true) (ws : List Jvm.Cond) (ob : Addr) (li : Addr) (ed : Addr) (ke : ClassId) (cap : Nat) (n : Nat) (vs : List Value) (mc : Int32) (dc : Addr) (cb : Nat) (sz : Nat) (mir : Addr) (gr : Nat) (h0 : Heap) (n0 : Nat) (Z0 : n0 ≤ h0.size) (HO : own_Ob Z h0 ob li cb sz) (HL : own_Ls Z n0 dc h0 li ed ke cap n vs mc) (hP : n * cb = sz + 0) (hcb : cb ≤ 8) (hgr : (n < cap ∧ gr = 0) ∨ (n = cap ∧ n ≤ 16 ∧ gr = 22)) (gi : n0 ≤ li) (O0 : Old Z n0 h0) (SD : Sta Z Z.heap "java/util/ArrayList" "DEFAULTCAPACITY_EMPTY_ELEMENTDATA" "[Ljava/lang/Object;" (.ref dc)) (MI : Mir Z "[Ljava/lang/Object;" mir) :
    MetFree l (⟨"com/example/cotab/cotab/ChunkedBytes", "room", "()I"⟩ : MethodName) (head1 (Jvm.Cond.code (⟨"com/example/cotab/cotab/ChunkedBytes", "room", "()I"⟩ : MethodName) prog_2_method_9_code 2 (some .int) :: ws) ({ frames := 7, cells := 2, slots := (cb + gr), locals := 156 } : Room)) (fun a U => a = #[(.ref ob)] ∧ Z.Warmed39 U.vm ∧ U.heap = h0) (fun _ _ _ _ _ => True) (fun _ U o U' => ∃ v L, o = .returned v ∧ Q73 Z ob li ed ke cap n vs mc dc cb sz mir gr h0 n0 v U'.heap L ∧ FrameEnd U o U' L ({ frames := 7, cells := 2, slots := (cb + gr), locals := 156 } : Room).cells ({ frames := 7, cells := 2, slots := (cb + gr), locals := 156 } : Room).slots) := by
  refine MetFree.of_bodySF (plainFor_of_name pn_73) hisR ?_
  intro p e s m args below meth c s₁ Bd hml0 hP hK
  obtain ⟨rfl, hZ, hh⟩ := hP
  have hx := Bd.exec
  have hby := Bd.bytes
  have hml : c.maxLocals = 2 := hml0
  have hown : s.vm.findClass "com/example/cotab/cotab/ChunkedBytes" = some m.cls := findClass_of_methodNamed Bd.named
  have hnm := (name_of_methodNamed Bd.named Bd.method).1
  have X0 : Stand p l e ({ frames := 7, cells := 2, slots := (cb + gr), locals := 156 } : Room) s m #[(.ref ob)] below meth c s₁ [] 0 0 := Stand.of_body Bd
  have e0 : s₁.heap = h0 := by rw [← hh, Bd.state]; rfl
  have N0 := Fr.nil n0
  refine Gl.gen fun P hPost => ?_
  refine Gl.st (fun _ k => castTop (ef_73 m ob ) k) ?_
  show Gl p e below P (s₁.setTop (mkF m 0 #[.val (.ref ob), .unset] []))
  obtain ⟨EO, FC, FB, FZ⟩ := id HO
  obtain ⟨EL, FD, FS, FM, EE, VE, LE, hvl, hnc, hcp⟩ := id HL
  have nle : li ≠ ed := EL.neArv VE (hw _ (List.mem_of_getElem? (i := 16) rfl))
  have ne_li_ob : li ≠ ob := ne_exa EL EO (by decide)
  have ne_ob_ed : ob ≠ ed := EO.neArv VE (hw _ (List.mem_of_getElem? (i := 2) rfl))
  refine Gl.st (fun _ k => XS.aloadN X0.here hx rfl (hb hby d72_0) rfl rfl k) ?_
  show Gl p e below P (s₁.setTop (mkF m 1 #[.val (.ref ob), .unset] [(.ref ob)]))
  obtain ⟨T1, X1, e1, st1⟩ := getF X0 hx hZ hown (host := "") (Or.inl (hw _ (List.mem_of_getElem? (i := 39) rfl))) Via.refl e0 FC (g := (mkF m 1 #[.val (.ref ob), .unset] [(.ref ob)])) rfl rfl (hb hby d72_1)
  refine Gl.st st1 ?_
  show Gl p e below P (T1.setTop (mkF m 4 #[.val (.ref ob), .unset] [(.ref li)]))
  obtain ⟨cq2, kq2, q2a, q2b, q2c⟩ := isOf hZ e1 EL
  obtain ⟨_, _, ⟨T2, L2, k2, n2⟩, -, X2, ⟨Lc2, hQ2, l2, y2, z2⟩, st2⟩ := X1.interfaceBack hx (xi := (⟨"java/util/List", "size", "()I"⟩ : MethodName)) (y := (⟨"java/util/ArrayList", "size", "()I"⟩ : MethodName)) hown (mvT hZ (hw _ (List.mem_of_getElem? (i := 52) rfl))) (mvT hZ (hw _ (List.mem_of_getElem? (i := 53) rfl))) (mvT hZ (hw _ (List.mem_of_getElem? (i := 54) rfl))) (mvT hZ (hw _ (List.mem_of_getElem? (i := 55) rfl))) (mvT hZ (hw _ (List.mem_of_getElem? (i := 56) rfl))) (mvT hZ (hw _ (List.mem_of_getElem? (i := 57) rfl))) (mvT hZ (hw _ (List.mem_of_getElem? (i := 58) rfl))) (mvT hZ (hw _ (List.mem_of_getElem? (i := 59) rfl))) (by decide) (backOf (W := 0) (rm45 l Z a0 hw [] li (Int32.ofNat n) h0 n0 Z0 EL FS) hZ (hw _ (List.mem_of_getElem? (i := 60) rfl)) (hw _ (List.mem_of_getElem? (i := 17) rfl)) (Nat.le_of_ble_eq_true rfl) (Nat.le_of_ble_eq_true rfl)) q2a q2b q2c (g := (mkF m 4 #[.val (.ref ob), .unset] [(.ref li)])) rfl (by rw [hml]; rfl) (Steps.refl _) (argsL := []) (rest := []) (lenOf pd_10 rfl) rfl (by show 2 * 0 + _ ≤ _; exact Nat.le_of_eq rfl) (hb hby d72_4) (fun _ _ => ⟨rfl, e1, (Nat.le_of_ble_eq_true rfl : 0 + 0 ≤ _), (show 0 + 0 ≤ (cb + gr) by omega)⟩)
  dsimp only [Pt.U, Pt.locs, Pt.cells, Pt.slots] at X2 l2 y2 z2 st2 hQ2
  subst l2 y2 z2
  obtain ⟨rfl, N2q, e2⟩ := hQ2
  have N2 := Fr.app N0 N2q
  refine Gl.tr st2 ?_
  show Gl p e below P (T2.setTop (mkF m 9 #[.val (.ref ob), .unset] [(.int (Int32.ofNat n))]))
  refine Gl.st (fun _ k => XS.aloadN X2.here hx rfl (hb hby d72_9) rfl rfl k) ?_
  show Gl p e below P (T2.setTop (mkF m 10 #[.val (.ref ob), .unset] [(.ref ob), (.int (Int32.ofNat n))]))
  obtain ⟨T3, X3, e3, st3⟩ := getF X2 hx hZ hown (host := "") (Or.inl (hw _ (List.mem_of_getElem? (i := 41) rfl))) Via.refl e2 FB (g := (mkF m 10 #[.val (.ref ob), .unset] [(.ref ob), (.int (Int32.ofNat n))])) rfl rfl (hb hby d72_10)
  refine Gl.st st3 ?_
  show Gl p e below P (T3.setTop (mkF m 13 #[.val (.ref ob), .unset] [(.int (Int32.ofNat cb)), (.int (Int32.ofNat n))]))
  refine Gl.st (fun _ k => XS.imul X3.here hx rfl (hb hby d72_13) rfl k) ?_
  show Gl p e below P (T3.setTop (mkF m 14 #[.val (.ref ob), .unset] [(.int ((Int32.ofNat n) * (Int32.ofNat cb)))]))
  refine Gl.st (fun _ k => XS.aloadN X3.here hx rfl (hb hby d72_14) rfl rfl k) ?_
  show Gl p e below P (T3.setTop (mkF m 15 #[.val (.ref ob), .unset] [(.ref ob), (.int ((Int32.ofNat n) * (Int32.ofNat cb)))]))
  obtain ⟨T4, X4, e4, st4⟩ := getF X3 hx hZ hown (host := "") (Or.inl (hw _ (List.mem_of_getElem? (i := 63) rfl))) Via.refl e3 FZ (g := (mkF m 15 #[.val (.ref ob), .unset] [(.ref ob), (.int ((Int32.ofNat n) * (Int32.ofNat cb)))])) rfl rfl (hb hby d72_15)
  refine Gl.st st4 ?_
  show Gl p e below P (T4.setTop (mkF m 18 #[.val (.ref ob), .unset] [(.int (Int32.ofNat sz)), (.int ((Int32.ofNat n) * (Int32.ofNat cb)))]))
  refine Gl.st (fun _ k => XS.isub X4.here hx rfl (hb hby d72_18) rfl k) ?_
  show Gl p e below P (T4.setTop (mkF m 19 #[.val (.ref ob), .unset] [(.int (((Int32.ofNat n) * (Int32.ofNat cb)) - (Int32.ofNat sz)))]))
  rw [show (((Int32.ofNat n) * (Int32.ofNat cb)) - (Int32.ofNat sz)) = (Int32.ofNat 0) from own_room hP]
  show Gl p e below P (T4.setTop (mkF m 19 #[.val (.ref ob), .unset] [(.int (Int32.ofNat 0))]))
  refine Gl.st (fun _ k => XS.istoreN X4.here hx rfl (hb hby d72_19) rfl (l' := #[.val (.ref ob), .val (.int (Int32.ofNat 0))]) rfl k) ?_
  show Gl p e below P (T4.setTop (mkF m 20 #[.val (.ref ob), .val (.int (Int32.ofNat 0))] []))
  refine Gl.st (fun _ k => XS.iloadN X4.here hx rfl (hb hby d72_20) rfl k) ?_
  show Gl p e below P (T4.setTop (mkF m 21 #[.val (.ref ob), .val (.int (Int32.ofNat 0))] [(.int (Int32.ofNat 0))]))
  refine Gl.st (fun _ k => XS.ifNo X4.here hx rfl (hb hby d72_21) rfl ((if0 _ _).trans (teq (rfl : (Int32.ofNat 0) = (0 : Int32))).2) k) ?_
  show Gl p e below P (T4.setTop (mkF m 24 #[.val (.ref ob), .val (.int (Int32.ofNat 0))] []))
  refine Gl.st (fun _ k => XS.aloadN X4.here hx rfl (hb hby d72_24) rfl rfl k) ?_
  show Gl p e below P (T4.setTop (mkF m 25 #[.val (.ref ob), .val (.int (Int32.ofNat 0))] [(.ref ob)]))
  obtain ⟨T5, X5, e5, st5⟩ := getF X4 hx hZ hown (host := "") (Or.inl (hw _ (List.mem_of_getElem? (i := 39) rfl))) Via.refl e4 FC (g := (mkF m 25 #[.val (.ref ob), .val (.int (Int32.ofNat 0))] [(.ref ob)])) rfl rfl (hb hby d72_25)
  refine Gl.st st5 ?_
  show Gl p e below P (T5.setTop (mkF m 28 #[.val (.ref ob), .val (.int (Int32.ofNat 0))] [(.ref li)]))
  refine Gl.st (fun _ k => XS.aloadN X5.here hx rfl (hb hby d72_28) rfl rfl k) ?_
  show Gl p e below P (T5.setTop (mkF m 29 #[.val (.ref ob), .val (.int (Int32.ofNat 0))] [(.ref ob), (.ref li)]))
  obtain ⟨T6, X6, e6, st6⟩ := getF X5 hx hZ hown (host := "") (Or.inl (hw _ (List.mem_of_getElem? (i := 41) rfl))) Via.refl e5 FB (g := (mkF m 29 #[.val (.ref ob), .val (.int (Int32.ofNat 0))] [(.ref ob), (.ref li)])) rfl rfl (hb hby d72_29)
  refine Gl.st st6 ?_
  show Gl p e below P (T6.setTop (mkF m 32 #[.val (.ref ob), .val (.int (Int32.ofNat 0))] [(.int (Int32.ofNat cb)), (.ref li)]))
  obtain ⟨T7, h7, k7, X7, e7, E7, A7, Z7x, st7⟩ := own_newB X6 hx hZ (hw _ (List.mem_of_getElem? (i := 0) rfl)) e6 (g := (mkF m 32 #[.val (.ref ob), .val (.int (Int32.ofNat 0))] [(.int (Int32.ofNat cb)), (.ref li)])) rfl (hb hby d72_32) rfl (own_neg cb (by omega)) (cap := cb) (by rw [own_nn cb (by omega)]; exact Nat.le_refl _) (by omega) (show 0 + 1 ≤ 2 by omega) (show 0 + cb ≤ cb + gr by omega)
  obtain ⟨b7, g7⟩ : ∃ z, z = h0.size := ⟨_, rfl⟩
  rw [← g7] at A7 st7 Z7x
  refine Gl.st st7 ?_
  have g_b7 : n0 ≤ b7 := Nat.le_trans Z0 (Nat.le_of_eq g7.symm)
  have sz_b7 : h0.size ≤ b7 := Nat.le_trans (Keep.refl h0 [li, ed]).1 (Nat.le_of_eq g7.symm)
  have ne_ob_b7 : ob ≠ b7 := Nat.ne_of_lt (Nat.lt_of_lt_of_le EO.lt (Nat.le_of_eq g7.symm))
  have ne_li_b7 : li ≠ b7 := Nat.ne_of_lt (Nat.lt_of_lt_of_le EL.lt (Nat.le_of_eq g7.symm))
  have ne_ed_b7 : ed ≠ b7 := Nat.ne_of_lt (Nat.lt_of_lt_of_le EE.lt (Nat.le_of_eq g7.symm))
  have Z0_v7 : n0 ≤ h7.size := Nat.le_trans Z0 E7.1
  have EO_v7 : Exa Z h7 ob "com/example/cotab/cotab/ChunkedBytes" := EO.ext E7
  have FC_v7 : Fld Z h7 ob "com/example/cotab/cotab/ChunkedBytes" "chunks" "Ljava/util/List;" (.ref li) := FC.ext E7
  have FB_v7 : Fld Z h7 ob "com/example/cotab/cotab/ChunkedBytes" "chunkBytes" "I" (.int (Int32.ofNat cb)) := FB.ext E7
  have FZ_v7 : Fld Z h7 ob "com/example/cotab/cotab/ChunkedBytes" "size" "I" (.int (Int32.ofNat sz)) := FZ.ext E7
  have EL_v7 : Exa Z h7 li "java/util/ArrayList" := EL.ext E7
  have FD_v7 : Fld Z h7 li "java/util/ArrayList" "elementData" "[Ljava/lang/Object;" (.ref ed) := FD.ext E7
  have FS_v7 : Fld Z h7 li "java/util/ArrayList" "size" "I" (.int (Int32.ofNat n)) := FS.ext E7
  have FM_v7 : Fld Z h7 li "java/util/AbstractList" "modCount" "I" (.int mc) := FM.ext E7
  have EE_v7 : Exa Z h7 ed "[Ljava/lang/Object;" := EE.ext E7
  have VE_v7 : Arv Z h7 ed ke (.object "java/lang/Object") (Int32.ofNat cap) vs .null := VE.ext E7
  have LE_v7 : own_El Z h7 vs := own_El_ext E7 LE
  have f_K_v7 : Keep h0 h7 [li, ed] := (Keep.refl h0 [li, ed]).ext E7
  have O0_v7 : Old Z n0 h7 := O0.ext E7
  have V_b7 : Arv Z h7 b7 k7 .byte (Int32.ofNat cb) (List.replicate cb (.int (0 : Int32))) (.int (0 : Int32)) := (Arv.new A7 (own_neg cb (by omega))).pad (pad_rep [] (.int (0 : Int32)) cb)
  show Gl p e below P (T7.setTop (mkF m 34 #[.val (.ref ob), .val (.int (Int32.ofNat 0))] [(.ref b7), (.ref li)]))
  have ICk : own_El Z h7 [.ref b7] := fun u hu => Or.inr ⟨b7, List.mem_singleton.mp hu, Ins.of_exa Z7x (hw _ (List.mem_of_getElem? (i := 96) rfl))⟩
  obtain ⟨cq8, kq8, q8a, q8b, q8c⟩ := isOf hZ e7 EL_v7
  obtain ⟨_, _, ⟨T8, L8, k8, n8⟩, -, X8, ⟨Lc8, hQ8, l8, y8, z8⟩, st8⟩ := X7.interfaceBack hx (xi := (⟨"java/util/List", "add", "(Ljava/lang/Object;)Z"⟩ : MethodName)) (y := (⟨"java/util/ArrayList", "add", "(Ljava/lang/Object;)Z"⟩ : MethodName)) hown (mvT hZ (hw _ (List.mem_of_getElem? (i := 65) rfl))) (mvT hZ (hw _ (List.mem_of_getElem? (i := 66) rfl))) (mvT hZ (hw _ (List.mem_of_getElem? (i := 67) rfl))) (mvT hZ (hw _ (List.mem_of_getElem? (i := 68) rfl))) (mvT hZ (hw _ (List.mem_of_getElem? (i := 69) rfl))) (mvT hZ (hw _ (List.mem_of_getElem? (i := 70) rfl))) (mvT hZ (hw _ (List.mem_of_getElem? (i := 71) rfl))) (mvT hZ (hw _ (List.mem_of_getElem? (i := 59) rfl))) (by decide) (backOf (W := 0) (rm71 l Z a0 hw [] li ed ke cap n vs mc dc mir b7 gr h7 n0 Z0_v7 ⟨EL_v7, FD_v7, FS_v7, FM_v7, EE_v7, VE_v7, LE_v7, hvl, hnc, hcp⟩ ICk hgr gi O0_v7 SD MI) hZ (hw _ (List.mem_of_getElem? (i := 72) rfl)) (hw _ (List.mem_of_getElem? (i := 17) rfl)) (Nat.le_of_ble_eq_true rfl) (Nat.le_of_ble_eq_true rfl)) q8a q8b q8c (g := (mkF m 34 #[.val (.ref ob), .val (.int (Int32.ofNat 0))] [(.ref b7), (.ref li)])) rfl (by rw [hml]; rfl) (Steps.refl _) (argsL := [(.ref b7)]) (rest := []) (lenOf pd_11 rfl) rfl (by show 2 * 0 + _ ≤ _; exact Nat.le_of_eq rfl) (hb hby d72_34) (fun _ _ => ⟨rfl, e7, (Nat.le_of_ble_eq_true rfl : 1 + 1 ≤ _), (show (0 + cb) + gr ≤ (cb + gr) by omega)⟩)
  dsimp only [Pt.U, Pt.locs, Pt.cells, Pt.slots] at X8 l8 y8 z8 st8 hQ8
  subst l8 y8 z8
  obtain ⟨rfl, ed2, ke2, cap2, vs2, mc2, N8q, K8, O8q, HL8, gd8, nx8⟩ := hQ8
  have N8 := Fr.app N2 N8q
  have Z0_v8 : n0 ≤ T8.heap.size := Nat.le_trans Z0_v7 K8.1
  have EO_v8 : Exa Z T8.heap ob "com/example/cotab/cotab/ChunkedBytes" := EO_v7.keep K8
  have FC_v8 : Fld Z T8.heap ob "com/example/cotab/cotab/ChunkedBytes" "chunks" "Ljava/util/List;" (.ref li) := FC_v7.keep K8 (ninS (Ne.symm ne_li_ob) (ninS ne_ob_ed nin0))
  have FB_v8 : Fld Z T8.heap ob "com/example/cotab/cotab/ChunkedBytes" "chunkBytes" "I" (.int (Int32.ofNat cb)) := FB_v7.keep K8 (ninS (Ne.symm ne_li_ob) (ninS ne_ob_ed nin0))
  have FZ_v8 : Fld Z T8.heap ob "com/example/cotab/cotab/ChunkedBytes" "size" "I" (.int (Int32.ofNat sz)) := FZ_v7.keep K8 (ninS (Ne.symm ne_li_ob) (ninS ne_ob_ed nin0))
  have EL_v8 : Exa Z T8.heap li "java/util/ArrayList" := EL_v7.keep K8
  have f_K_v8 : Keep h0 T8.heap [li, ed] := f_K_v7.trans K8 (allS (Or.inl (List.mem_of_getElem? (i := 0) rfl)) (allS (Or.inl (List.mem_of_getElem? (i := 1) rfl)) all0))
  have Z7x_v8 : Exa Z T8.heap b7 "[B" := Z7x.keep K8
  have V_b7_v8 : Arv Z T8.heap b7 k7 .byte (Int32.ofNat cb) (List.replicate cb (.int (0 : Int32))) (.int (0 : Int32)) := V_b7.keep K8 (ninS (Ne.symm ne_li_b7) (ninS (Ne.symm ne_ed_b7) nin0))
  refine Gl.tr st8 ?_
  show Gl p e below P (T8.setTop (mkF m 39 #[.val (.ref ob), .val (.int (Int32.ofNat 0))] [(.int (1 : Int32))]))
  refine Gl.st (fun _ k => XS.pop X8.here hx rfl (hb hby d72_39) rfl rfl k) ?_
  show Gl p e below P (T8.setTop (mkF m 40 #[.val (.ref ob), .val (.int (Int32.ofNat 0))] []))
  refine Gl.st (fun _ k => XS.aloadN X8.here hx rfl (hb hby d72_40) rfl rfl k) ?_
  show Gl p e below P (T8.setTop (mkF m 41 #[.val (.ref ob), .val (.int (Int32.ofNat 0))] [(.ref ob)]))
  obtain ⟨T9, X9, e9, st9⟩ := getF X8 hx hZ hown (host := "") (Or.inl (hw _ (List.mem_of_getElem? (i := 41) rfl))) Via.refl rfl FB_v8 (g := (mkF m 41 #[.val (.ref ob), .val (.int (Int32.ofNat 0))] [(.ref ob)])) rfl rfl (hb hby d72_41)
  refine Gl.st st9 ?_
  show Gl p e below P (T9.setTop (mkF m 44 #[.val (.ref ob), .val (.int (Int32.ofNat 0))] [(.int (Int32.ofNat cb))]))
  refine Gl.st (fun _ k => XS.istoreN X9.here hx rfl (hb hby d72_44) rfl (l' := #[.val (.ref ob), .val (.int (Int32.ofNat cb))]) rfl k) ?_
  show Gl p e below P (T9.setTop (mkF m 45 #[.val (.ref ob), .val (.int (Int32.ofNat cb))] []))
  refine Gl.st (fun _ k => XS.iloadN X9.here hx rfl (hb hby d72_45) rfl k) ?_
  show Gl p e below P (T9.setTop (mkF m 46 #[.val (.ref ob), .val (.int (Int32.ofNat cb))] [(.int (Int32.ofNat cb))]))
  obtain ⟨fs, hr, hrun, hended, hW, hsame⟩ := X9.leave (v := some (.int (Int32.ofNat cb))) (fun h => by rw [Bd.returns] at h; cases h)
  refine ⟨_, _, retOut X9 hx Bd.returns rfl (Or.inl ⟨rfl, Or.inl rfl, _, rfl⟩) (hb hby d72_46) hr, hrun, hended, hPost _ _ ⟨_, _, rfl, ?_, ⟨_, rfl⟩, hW, hsame.mono (show 2 ≤ 2 by omega) (show ((0 + cb) + gr) ≤ (cb + gr) by omega)⟩⟩
  show Q73 Z ob li ed ke cap n vs mc dc cb sz mir gr h0 n0 _ T9.heap _
  rw [e9]
  exact ⟨rfl, _, _, _, _, _, _, _, N8, f_K_v8, O8q, HL8, gd8, nx8, Z7x_v8, V_b7_v8, sz_b7⟩
theorem pn_74 : plainName "com/example/cotab/cotab/ChunkedBytes" = true := by first | (simp [plainName, overriddenIn]; done) | decide +kernel
theorem ef_74 (m : MethodId) (x0 : Addr) (x1 : Int32) : entryFrame m #[(.ref x0), (.int x1)] 3 = mkF m 0 #[.val (.ref x0), .val (.int x1), .unset] [] := by first | (simp [entryFrame, mkF, argsToLocals, Value.category]; done) | rfl
def Q74 (Z : State) (ob : Addr) (li : Addr) (ed : Addr) (ke : ClassId) (cap : Nat) (vs : List Value) (mc : Int32) (dc : Addr) (cb : Nat) (mir : Addr) (x9 : Int32) (da : Addr) (kda : ClassId) (bsd : List Value) (h0 : Heap) (n0 : Nat) (v : Option Value) (h : Heap) (L : List Loc) : Prop := v = none ∧ Fr n0 L ∧ Old Z n0 h ∧ Arv Z h da kda .byte (16 : Int32) bsd (.int (0 : Int32)) ∧ ∃ ed2 ke2 cap2 vs2 mc2 ck kk bs, own_Ob Z h ob li cb 1 ∧ own_Ls Z n0 dc h li ed2 ke2 cap2 1 vs2 mc2 ∧ vs2.getD 0 .null = .ref ck ∧ Arv Z h ck kk .byte (Int32.ofNat cb) bs (.int (0 : Int32)) ∧ bs.length = cb ∧ ck ≠ da ∧ n0 ≤ ck
set_option maxRecDepth 65536 in
set_option maxHeartbeats 40000000 in
theorem rm74 (l : Launch) (Z : State) (a0 : Array Value) (hw : ∀ d ∈ tables_1, d.before a0 Z = true) (ws : List Jvm.Cond) (ob : Addr) (li : Addr) (ed : Addr) (ke : ClassId) (cap : Nat) (vs : List Value) (mc : Int32) (dc : Addr) (cb : Nat) (mir : Addr) (x9 : Int32) (da : Addr) (kda : ClassId) (bsd : List Value) (h0 : Heap) (n0 : Nat) (Z0 : n0 ≤ h0.size) (HO : own_Ob Z h0 ob li cb 0) (HL : own_Ls Z n0 dc h0 li ed ke cap 0 vs mc) (hcb1 : 1 ≤ cb) (hcb : cb ≤ 8) (go : n0 ≤ ob) (gi : n0 ≤ li) (O0 : Old Z n0 h0) (SD : Sta Z Z.heap "java/util/ArrayList" "DEFAULTCAPACITY_EMPTY_ELEMENTDATA" "[Ljava/lang/Object;" (.ref dc)) (MI : Mir Z "[Ljava/lang/Object;" mir) (VDA : Arv Z h0 da kda .byte (16 : Int32) bsd (.int (0 : Int32))) :
    MetFree l (⟨"com/example/cotab/cotab/ChunkedBytes", "write", "(I)V"⟩ : MethodName) (head1 (Jvm.Cond.code (⟨"com/example/cotab/cotab/ChunkedBytes", "write", "(I)V"⟩ : MethodName) prog_2_method_4_code 3 none :: ws) ({ frames := 8, cells := 2, slots := 30, locals := 172 } : Room)) (fun a U => a = #[(.ref ob), (.int x9)] ∧ Z.Warmed39 U.vm ∧ U.heap = h0) (fun _ _ _ _ _ => True) (fun _ U o U' => ∃ v L, o = .returned v ∧ Q74 Z ob li ed ke cap vs mc dc cb mir x9 da kda bsd h0 n0 v U'.heap L ∧ FrameEnd U o U' L ({ frames := 8, cells := 2, slots := 30, locals := 172 } : Room).cells ({ frames := 8, cells := 2, slots := 30, locals := 172 } : Room).slots) := by
  refine MetFree.of_bodySF (plainFor_of_name pn_74) hisR ?_
  intro p e s m args below meth c s₁ Bd hml0 hP hK
  obtain ⟨rfl, hZ, hh⟩ := hP
  have hx := Bd.exec
  have hby := Bd.bytes
  have hml : c.maxLocals = 3 := hml0
  have hown : s.vm.findClass "com/example/cotab/cotab/ChunkedBytes" = some m.cls := findClass_of_methodNamed Bd.named
  have hnm := (name_of_methodNamed Bd.named Bd.method).1
  have X0 : Stand p l e ({ frames := 8, cells := 2, slots := 30, locals := 172 } : Room) s m #[(.ref ob), (.int x9)] below meth c s₁ [] 0 0 := Stand.of_body Bd
  have e0 : s₁.heap = h0 := by rw [← hh, Bd.state]; rfl
  have N0 := Fr.nil n0
  refine Gl.gen fun P hPost => ?_
  refine Gl.st (fun _ k => castTop (ef_74 m ob x9 ) k) ?_
  show Gl p e below P (s₁.setTop (mkF m 0 #[.val (.ref ob), .val (.int x9), .unset] []))
  obtain ⟨EO, FC, FB, FZ⟩ := id HO
  obtain ⟨EL, FD, FS, FM, EE, VE, LE, hvl, hnc, hcp⟩ := id HL
  have nle : li ≠ ed := EL.neArv VE (hw _ (List.mem_of_getElem? (i := 16) rfl))
  have ne_li_ob : li ≠ ob := ne_exa EL EO (by decide)
  have ne_ob_ed : ob ≠ ed := EO.neArv VE (hw _ (List.mem_of_getElem? (i := 2) rfl))
  have ne_li_da : li ≠ da := EL.neArv VDA (hw _ (List.mem_of_getElem? (i := 16) rfl))
  have ne_ob_da : ob ≠ da := EO.neArv VDA (hw _ (List.mem_of_getElem? (i := 2) rfl))
  have ne_ed_da : ed ≠ da := own_arv_ne VE VDA (by decide)
  obtain ⟨gr, hgr, hg30⟩ : ∃ gr, ((0 < cap ∧ gr = 0) ∨ (0 = cap ∧ 0 ≤ 16 ∧ gr = 22)) ∧ gr ≤ 22 := by by_cases q : 0 < cap; exact ⟨0, Or.inl ⟨q, rfl⟩, by omega⟩; exact ⟨22, Or.inr ⟨by omega, by omega, rfl⟩, by omega⟩
  refine Gl.st (fun _ k => XS.aloadN X0.here hx rfl (hb hby d74_0) rfl rfl k) ?_
  show Gl p e below P (s₁.setTop (mkF m 1 #[.val (.ref ob), .val (.int x9), .unset] [(.ref ob)]))
  obtain ⟨cq1, q1, q1'⟩ := EO.cell
  obtain ⟨_, _, ⟨T1, L1, k1, n1⟩, -, X1, ⟨Lc1, hQ1, l1, y1, z1⟩, st1⟩ := X0.privateBack hx (y := (⟨"com/example/cotab/cotab/ChunkedBytes", "room", "()I"⟩ : MethodName)) hown (mvT hZ (hw _ (List.mem_of_getElem? (i := 48) rfl))) (mvT hZ (hw _ (List.mem_of_getElem? (i := 49) rfl))) (mvT hZ (own_sel (y := (⟨"com/example/cotab/cotab/ChunkedBytes", "room", "()I"⟩ : MethodName)) (hw _ (List.mem_of_getElem? (i := 2) rfl)) (hw _ (List.mem_of_getElem? (i := 50) rfl)) (hw _ (List.mem_of_getElem? (i := 49) rfl)) (by decide))) (Cond.privateMethod_at (mvP hZ (hw _ (List.mem_of_getElem? (i := 50) rfl)) (args := #[]))) (mvT hZ (hw _ (List.mem_of_getElem? (i := 51) rfl))) (by decide) (backOf (W := 0) (rm73 l Z a0 hw [] ob li ed ke cap 0 vs mc dc cb 0 mir gr h0 n0 Z0 ⟨EO, FC, FB, FZ⟩ ⟨EL, FD, FS, FM, EE, VE, LE, hvl, hnc, hcp⟩ (Nat.zero_mul cb) hcb hgr gi O0 SD MI) hZ (hw _ (List.mem_of_getElem? (i := 51) rfl)) (hw _ (List.mem_of_getElem? (i := 3) rfl)) (Nat.le_of_ble_eq_true rfl) (Nat.le_of_ble_eq_true rfl)) (g := (mkF m 1 #[.val (.ref ob), .val (.int x9), .unset] [(.ref ob)])) rfl (by rw [hml]; rfl) (Steps.refl _) (a := ob) (by rw [e0]; exact q1) q1' (argsL := []) (rest := []) (lenOf pd_10 rfl) rfl (by show 2 * 0 + _ ≤ _; exact Nat.le_of_eq rfl) (hb hby d74_1) (fun _ _ => ⟨rfl, e0, (by decide : 0 + 2 ≤ _), (show 0 + (cb + gr) ≤ 30 by omega)⟩)
  dsimp only [Pt.U, Pt.locs, Pt.cells, Pt.slots] at X1 l1 y1 z1 st1 hQ1
  subst l1 y1 z1
  obtain ⟨rfl, ed2, ke2, cap2, vs2, mc2, ck, kk, N1q, K1, O1q, HL1, gd1, nx1, EC1, VC1, gc1⟩ := hQ1
  have ne_da_ck : da ≠ ck := Nat.ne_of_lt (Nat.lt_of_lt_of_le VDA.lt gc1)
  have g_ck : n0 ≤ ck := Nat.le_trans Z0 gc1
  have N1 := Fr.app N0 N1q
  have Z0_v1 : n0 ≤ T1.heap.size := Nat.le_trans Z0 K1.1
  have EO_v1 : Exa Z T1.heap ob "com/example/cotab/cotab/ChunkedBytes" := EO.keep K1
  have FC_v1 : Fld Z T1.heap ob "com/example/cotab/cotab/ChunkedBytes" "chunks" "Ljava/util/List;" (.ref li) := FC.keep K1 (ninS (Ne.symm ne_li_ob) (ninS ne_ob_ed nin0))
  have FB_v1 : Fld Z T1.heap ob "com/example/cotab/cotab/ChunkedBytes" "chunkBytes" "I" (.int (Int32.ofNat cb)) := FB.keep K1 (ninS (Ne.symm ne_li_ob) (ninS ne_ob_ed nin0))
  have FZ_v1 : Fld Z T1.heap ob "com/example/cotab/cotab/ChunkedBytes" "size" "I" (.int (Int32.ofNat 0)) := FZ.keep K1 (ninS (Ne.symm ne_li_ob) (ninS ne_ob_ed nin0))
  have EL_v1 : Exa Z T1.heap li "java/util/ArrayList" := EL.keep K1
  have VDA_v1 : Arv Z T1.heap da kda .byte (16 : Int32) bsd (.int (0 : Int32)) := VDA.keep K1 (ninS (Ne.symm ne_li_da) (ninS (Ne.symm ne_ed_da) nin0))
  refine Gl.tr st1 ?_
  show Gl p e below P (T1.setTop (mkF m 4 #[.val (.ref ob), .val (.int x9), .unset] [(.int (Int32.ofNat cb))]))
  obtain ⟨ELr, FDr, FSr, FMr, EEr, VEr, LEr, hvlr, hncr, hcpr⟩ := id HL1
  have nler : li ≠ ed2 := ELr.neArv VEr (hw _ (List.mem_of_getElem? (i := 16) rfl))
  have ne_li_obr : li ≠ ob := ne_exa ELr EO_v1 (by decide)
  have ne_ob_ed2r : ob ≠ ed2 := EO_v1.neArv VEr (hw _ (List.mem_of_getElem? (i := 2) rfl))
  have ne_li_dar : li ≠ da := ELr.neArv VDA_v1 (hw _ (List.mem_of_getElem? (i := 16) rfl))
  have ne_ob_dar : ob ≠ da := EO_v1.neArv VDA_v1 (hw _ (List.mem_of_getElem? (i := 2) rfl))
  have ne_ed2_dar : ed2 ≠ da := own_arv_ne VEr VDA_v1 (by decide)
  have ne_li_ckr : li ≠ ck := ELr.neArv VC1 (hw _ (List.mem_of_getElem? (i := 16) rfl))
  have ne_ob_ckr : ob ≠ ck := EO_v1.neArv VC1 (hw _ (List.mem_of_getElem? (i := 2) rfl))
  have ne_ed2_ckr : ed2 ≠ ck := own_arv_ne VEr VC1 (by decide)
  refine Gl.st (fun _ k => XS.istoreN X1.here hx rfl (hb hby d74_4) rfl (l' := #[.val (.ref ob), .val (.int x9), .val (.int (Int32.ofNat cb))]) rfl k) ?_
  show Gl p e below P (T1.setTop (mkF m 5 #[.val (.ref ob), .val (.int x9), .val (.int (Int32.ofNat cb))] []))
  refine Gl.st (fun _ k => XS.aloadN X1.here hx rfl (hb hby d74_5) rfl rfl k) ?_
  show Gl p e below P (T1.setTop (mkF m 6 #[.val (.ref ob), .val (.int x9), .val (.int (Int32.ofNat cb))] [(.ref ob)]))
  obtain ⟨T2, X2, e2, st2⟩ := getF X1 hx hZ hown (host := "") (Or.inl (hw _ (List.mem_of_getElem? (i := 39) rfl))) Via.refl rfl FC_v1 (g := (mkF m 6 #[.val (.ref ob), .val (.int x9), .val (.int (Int32.ofNat cb))] [(.ref ob)])) rfl rfl (hb hby d74_6)
  refine Gl.st st2 ?_
  show Gl p e below P (T2.setTop (mkF m 9 #[.val (.ref ob), .val (.int x9), .val (.int (Int32.ofNat cb))] [(.ref li)]))
  refine Gl.st (fun _ k => XS.aloadN X2.here hx rfl (hb hby d74_9) rfl rfl k) ?_
  show Gl p e below P (T2.setTop (mkF m 10 #[.val (.ref ob), .val (.int x9), .val (.int (Int32.ofNat cb))] [(.ref ob), (.ref li)]))
  obtain ⟨T3, X3, e3, st3⟩ := getF X2 hx hZ hown (host := "") (Or.inl (hw _ (List.mem_of_getElem? (i := 39) rfl))) Via.refl e2 FC_v1 (g := (mkF m 10 #[.val (.ref ob), .val (.int x9), .val (.int (Int32.ofNat cb))] [(.ref ob), (.ref li)])) rfl rfl (hb hby d74_10)
  refine Gl.st st3 ?_
  show Gl p e below P (T3.setTop (mkF m 13 #[.val (.ref ob), .val (.int x9), .val (.int (Int32.ofNat cb))] [(.ref li), (.ref li)]))
  have hc22 : cap2 ≤ 22 := by rcases hcpr with ⟨q, -⟩ | ⟨q | q | q, -⟩ <;> omega
  obtain ⟨cq4, kq4, q4a, q4b, q4c⟩ := isOf hZ e3 ELr
  obtain ⟨_, _, ⟨T4, L4, k4, n4⟩, -, X4, ⟨Lc4, hQ4, l4, y4, z4⟩, st4⟩ := X3.interfaceBack hx (xi := (⟨"java/util/List", "size", "()I"⟩ : MethodName)) (y := (⟨"java/util/ArrayList", "size", "()I"⟩ : MethodName)) hown (mvT hZ (hw _ (List.mem_of_getElem? (i := 52) rfl))) (mvT hZ (hw _ (List.mem_of_getElem? (i := 53) rfl))) (mvT hZ (hw _ (List.mem_of_getElem? (i := 54) rfl))) (mvT hZ (hw _ (List.mem_of_getElem? (i := 55) rfl))) (mvT hZ (hw _ (List.mem_of_getElem? (i := 56) rfl))) (mvT hZ (hw _ (List.mem_of_getElem? (i := 57) rfl))) (mvT hZ (hw _ (List.mem_of_getElem? (i := 58) rfl))) (mvT hZ (hw _ (List.mem_of_getElem? (i := 59) rfl))) (by decide) (backOf (W := 1) (rm45 l Z a0 hw [] li (Int32.ofNat (0 + 1)) T1.heap n0 Z0_v1 ELr FSr) hZ (hw _ (List.mem_of_getElem? (i := 60) rfl)) (hw _ (List.mem_of_getElem? (i := 17) rfl)) (by decide) (by decide)) q4a q4b q4c (g := (mkF m 13 #[.val (.ref ob), .val (.int x9), .val (.int (Int32.ofNat cb))] [(.ref li), (.ref li)])) rfl (by rw [hml]; rfl) (Steps.refl _) (argsL := []) (rest := [(.ref li)]) (lenOf pd_10 rfl) rfl (by show 2 * 0 + _ ≤ _; exact Nat.le_of_eq rfl) (hb hby d74_13) (fun _ _ => ⟨rfl, e3, (by decide : 2 + 0 ≤ _), (show (0 + (cb + gr)) + 0 ≤ 30 by omega)⟩)
  dsimp only [Pt.U, Pt.locs, Pt.cells, Pt.slots] at X4 l4 y4 z4 st4 hQ4
  subst l4 y4 z4
  obtain ⟨rfl, N4q, e4⟩ := hQ4
  have N4 := Fr.app N1 N4q
  refine Gl.tr st4 ?_
  show Gl p e below P (T4.setTop (mkF m 18 #[.val (.ref ob), .val (.int x9), .val (.int (Int32.ofNat cb))] [(.int (Int32.ofNat (0 + 1))), (.ref li)]))
  refine Gl.st (fun _ k => XS.iconst X4.here hx rfl (hb hby d74_18) k) ?_
  show Gl p e below P (T4.setTop (mkF m 19 #[.val (.ref ob), .val (.int x9), .val (.int (Int32.ofNat cb))] [(.int (1 : Int32)), (.int (Int32.ofNat (0 + 1))), (.ref li)]))
  refine Gl.st (fun _ k => XS.isub X4.here hx rfl (hb hby d74_19) rfl k) ?_
  show Gl p e below P (T4.setTop (mkF m 20 #[.val (.ref ob), .val (.int x9), .val (.int (Int32.ofNat cb))] [(.int ((Int32.ofNat (0 + 1)) - (1 : Int32))), (.ref li)]))
  rw [show ((Int32.ofNat (0 + 1)) - (1 : Int32)) = (Int32.ofNat 0) from own_sub (0 + 1) 1 0 rfl]
  show Gl p e below P (T4.setTop (mkF m 20 #[.val (.ref ob), .val (.int x9), .val (.int (Int32.ofNat cb))] [(.int (Int32.ofNat 0)), (.ref li)]))
  obtain ⟨cq5, kq5, q5a, q5b, q5c⟩ := isOf hZ e4 ELr
  obtain ⟨_, _, ⟨T5, L5, k5, n5⟩, -, X5, ⟨Lc5, hQ5, l5, y5, z5⟩, st5⟩ := X4.interfaceBack hx (xi := (⟨"java/util/List", "get", "(I)Ljava/lang/Object;"⟩ : MethodName)) (y := (⟨"java/util/ArrayList", "get", "(I)Ljava/lang/Object;"⟩ : MethodName)) hown (mvT hZ (hw _ (List.mem_of_getElem? (i := 100) rfl))) (mvT hZ (hw _ (List.mem_of_getElem? (i := 101) rfl))) (mvT hZ (hw _ (List.mem_of_getElem? (i := 102) rfl))) (mvT hZ (hw _ (List.mem_of_getElem? (i := 103) rfl))) (mvT hZ (hw _ (List.mem_of_getElem? (i := 104) rfl))) (mvT hZ (hw _ (List.mem_of_getElem? (i := 105) rfl))) (mvT hZ (hw _ (List.mem_of_getElem? (i := 106) rfl))) (mvT hZ (hw _ (List.mem_of_getElem? (i := 59) rfl))) (by decide) (backOf (W := 0) (rm50 l Z a0 hw [] li ed2 ke2 cap2 (0 + 1) vs2 mc2 dc 0 ck T1.heap n0 Z0_v1 ⟨ELr, FDr, FSr, FMr, EEr, VEr, LEr, hvlr, hncr, hcpr⟩ (by omega) (by omega) gd1) hZ (hw _ (List.mem_of_getElem? (i := 107) rfl)) (hw _ (List.mem_of_getElem? (i := 17) rfl)) (by decide) (by decide)) q5a q5b q5c (g := (mkF m 20 #[.val (.ref ob), .val (.int x9), .val (.int (Int32.ofNat cb))] [(.int (Int32.ofNat 0)), (.ref li)])) rfl (by rw [hml]; rfl) (Steps.refl _) (argsL := [(.int (Int32.ofNat 0))]) (rest := []) (lenOf pd_3 rfl) rfl (by show 2 * 0 + _ ≤ _; exact Nat.le_of_eq rfl) (hb hby d74_20) (fun _ _ => ⟨rfl, e4, (by decide : 2 + 0 ≤ _), (show ((0 + (cb + gr)) + 0) + 0 ≤ 30 by omega)⟩)
  dsimp only [Pt.U, Pt.locs, Pt.cells, Pt.slots] at X5 l5 y5 z5 st5 hQ5
  subst l5 y5 z5
  obtain ⟨rfl, N5q, e5⟩ := hQ5
  have N5 := Fr.app N4 N5q
  refine Gl.tr st5 ?_
  show Gl p e below P (T5.setTop (mkF m 25 #[.val (.ref ob), .val (.int x9), .val (.int (Int32.ofNat cb))] [(.ref ck)]))
  obtain ⟨T6, X6, e6, st6⟩ := castY X5 hx hZ hown (hw _ (List.mem_of_getElem? (i := 148) rfl)) e5 (Ins.self EC1) (g := (mkF m 25 #[.val (.ref ob), .val (.int x9), .val (.int (Int32.ofNat cb))] [(.ref ck)])) rfl rfl (hb hby d74_25)
  refine Gl.st st6 ?_
  show Gl p e below P (T6.setTop (mkF m 28 #[.val (.ref ob), .val (.int x9), .val (.int (Int32.ofNat cb))] [(.ref ck)]))
  refine Gl.st (fun _ k => XS.aloadN X6.here hx rfl (hb hby d74_28) rfl rfl k) ?_
  show Gl p e below P (T6.setTop (mkF m 29 #[.val (.ref ob), .val (.int x9), .val (.int (Int32.ofNat cb))] [(.ref ob), (.ref ck)]))
  obtain ⟨T7, X7, e7, st7⟩ := getF X6 hx hZ hown (host := "") (Or.inl (hw _ (List.mem_of_getElem? (i := 41) rfl))) Via.refl e6 FB_v1 (g := (mkF m 29 #[.val (.ref ob), .val (.int x9), .val (.int (Int32.ofNat cb))] [(.ref ob), (.ref ck)])) rfl rfl (hb hby d74_29)
  refine Gl.st st7 ?_
  show Gl p e below P (T7.setTop (mkF m 32 #[.val (.ref ob), .val (.int x9), .val (.int (Int32.ofNat cb))] [(.int (Int32.ofNat cb)), (.ref ck)]))
  refine Gl.st (fun _ k => XS.iloadN X7.here hx rfl (hb hby d74_32) rfl k) ?_
  show Gl p e below P (T7.setTop (mkF m 33 #[.val (.ref ob), .val (.int x9), .val (.int (Int32.ofNat cb))] [(.int (Int32.ofNat cb)), (.int (Int32.ofNat cb)), (.ref ck)]))
  refine Gl.st (fun _ k => XS.isub X7.here hx rfl (hb hby d74_33) rfl k) ?_
  show Gl p e below P (T7.setTop (mkF m 34 #[.val (.ref ob), .val (.int x9), .val (.int (Int32.ofNat cb))] [(.int ((Int32.ofNat cb) - (Int32.ofNat cb))), (.ref ck)]))
  rw [show ((Int32.ofNat cb) - (Int32.ofNat cb)) = (Int32.ofNat 0) from own_sub cb cb 0 rfl]
  show Gl p e below P (T7.setTop (mkF m 34 #[.val (.ref ob), .val (.int x9), .val (.int (Int32.ofNat cb))] [(.int (Int32.ofNat 0)), (.ref ck)]))
  refine Gl.st (fun _ k => XS.iloadN X7.here hx rfl (hb hby d74_34) rfl k) ?_
  show Gl p e below P (T7.setTop (mkF m 35 #[.val (.ref ob), .val (.int x9), .val (.int (Int32.ofNat cb))] [(.int x9), (.int (Int32.ofNat 0)), (.ref ck)]))
  refine Gl.st (fun _ k => XS.i2b X7.here hx rfl (hb hby d74_35) rfl k) ?_
  show Gl p e below P (T7.setTop (mkF m 36 #[.val (.ref ob), .val (.int x9), .val (.int (Int32.ofNat cb))] [(.int (x9.toInt8.toInt32)), (.int (Int32.ofNat 0)), (.ref ck)]))
  obtain ⟨c8, Ar8, q8, S8, M8, H8, U8⟩ := id VC1
  obtain ⟨T9, h9, X9, e9, W9, st9⟩ := stB X7 hx hZ e7 Ar8 (j := (Int32.ofNat 0)) (inb_of S8 ⟨own_neg 0 (by omega), (own_lt 0 cb (by omega) (by omega)).mpr (by omega)⟩) (g := (mkF m 36 #[.val (.ref ob), .val (.int x9), .val (.int (Int32.ofNat cb))] [(.int (x9.toInt8.toInt32)), (.int (Int32.ofNat 0)), (.ref ck)])) rfl rfl (hb hby d74_36)
  refine Gl.st st9 ?_
  have Z0_v9 : n0 ≤ h9.size := Nat.le_trans Z0_v1 (Keep.of_wr W9).1
  have EO_v9 : Exa Z h9 ob "com/example/cotab/cotab/ChunkedBytes" := EO_v1.wr W9
  have FC_v9 : Fld Z h9 ob "com/example/cotab/cotab/ChunkedBytes" "chunks" "Ljava/util/List;" (.ref li) := FC_v1.other W9 (Or.inl ne_ob_ckr)
  have FB_v9 : Fld Z h9 ob "com/example/cotab/cotab/ChunkedBytes" "chunkBytes" "I" (.int (Int32.ofNat cb)) := FB_v1.other W9 (Or.inl ne_ob_ckr)
  have FZ_v9 : Fld Z h9 ob "com/example/cotab/cotab/ChunkedBytes" "size" "I" (.int (Int32.ofNat 0)) := FZ_v1.other W9 (Or.inl ne_ob_ckr)
  have ELr_v9 : Exa Z h9 li "java/util/ArrayList" := ELr.wr W9
  have VDA_v9 : Arv Z h9 da kda .byte (16 : Int32) bsd (.int (0 : Int32)) := VDA_v1.other W9 ne_da_ck
  have O1q_v9 : Old Z n0 h9 := O1q.wr W9 g_ck
  have FDr_v9 : Fld Z h9 li "java/util/ArrayList" "elementData" "[Ljava/lang/Object;" (.ref ed2) := FDr.other W9 (Or.inl ne_li_ckr)
  have FSr_v9 : Fld Z h9 li "java/util/ArrayList" "size" "I" (.int (Int32.ofNat (0 + 1))) := FSr.other W9 (Or.inl ne_li_ckr)
  have FMr_v9 : Fld Z h9 li "java/util/AbstractList" "modCount" "I" (.int mc2) := FMr.other W9 (Or.inl ne_li_ckr)
  have EEr_v9 : Exa Z h9 ed2 "[Ljava/lang/Object;" := EEr.wr W9
  have VEr_v9 : Arv Z h9 ed2 ke2 (.object "java/lang/Object") (Int32.ofNat cap2) vs2 .null := VEr.other W9 ne_ed2_ckr
  have LEr_v9 : own_El Z h9 vs2 := own_El_wr W9 LEr
  have EC1_v9 : Exa Z h9 ck "[B" := EC1.wr W9
  have VN9 : Arv Z h9 ck kk .byte (Int32.ofNat cb) ((List.replicate cb (.int (0 : Int32))).set 0 (.int (nar .byte (x9.toInt8.toInt32)))) (.int (0 : Int32)) := Arv.set Ar8 q8 S8 M8 H8 U8 (fits_nar_byte _) W9 _ (own_nn 0 (by omega)) (by rw [List.length_replicate]; omega)
  have N9 := Fr.snoc X9 N5 g_ck
  show Gl p e below P (T9.setTop (mkF m 37 #[.val (.ref ob), .val (.int x9), .val (.int (Int32.ofNat cb))] []))
  refine Gl.st (fun _ k => XS.aloadN X9.here hx rfl (hb hby d74_37) rfl rfl k) ?_
  show Gl p e below P (T9.setTop (mkF m 38 #[.val (.ref ob), .val (.int x9), .val (.int (Int32.ofNat cb))] [(.ref ob)]))
  refine Gl.st (fun _ k => XS.dup X9.here hx rfl (hb hby d74_38) rfl rfl k) ?_
  show Gl p e below P (T9.setTop (mkF m 39 #[.val (.ref ob), .val (.int x9), .val (.int (Int32.ofNat cb))] [(.ref ob), (.ref ob)]))
  obtain ⟨T10, X10, e10, st10⟩ := getF X9 hx hZ hown (host := "") (Or.inl (hw _ (List.mem_of_getElem? (i := 63) rfl))) Via.refl e9 FZ_v9 (g := (mkF m 39 #[.val (.ref ob), .val (.int x9), .val (.int (Int32.ofNat cb))] [(.ref ob), (.ref ob)])) rfl rfl (hb hby d74_39)
  refine Gl.st st10 ?_
  show Gl p e below P (T10.setTop (mkF m 42 #[.val (.ref ob), .val (.int x9), .val (.int (Int32.ofNat cb))] [(.int (Int32.ofNat 0)), (.ref ob)]))
  refine Gl.st (fun _ k => XS.iconst X10.here hx rfl (hb hby d74_42) k) ?_
  show Gl p e below P (T10.setTop (mkF m 43 #[.val (.ref ob), .val (.int x9), .val (.int (Int32.ofNat cb))] [(.int (1 : Int32)), (.int (Int32.ofNat 0)), (.ref ob)]))
  refine Gl.st (fun _ k => XS.iadd X10.here hx rfl (hb hby d74_43) rfl k) ?_
  show Gl p e below P (T10.setTop (mkF m 44 #[.val (.ref ob), .val (.int x9), .val (.int (Int32.ofNat cb))] [(.int ((Int32.ofNat 0) + (1 : Int32))), (.ref ob)]))
  rw [show ((Int32.ofNat 0) + (1 : Int32)) = (Int32.ofNat (0 + 1)) from own_s 0]
  show Gl p e below P (T10.setTop (mkF m 44 #[.val (.ref ob), .val (.int x9), .val (.int (Int32.ofNat cb))] [(.int (Int32.ofNat (0 + 1))), (.ref ob)]))
  obtain ⟨T11, h11, X11, e11, W11, st11⟩ := putF X10 hx hZ hown (host := "") (Or.inl (hw _ (List.mem_of_getElem? (i := 63) rfl))) Via.refl e10 FZ_v9 EO_v9 (Or.inl (hw _ (List.mem_of_getElem? (i := 64) rfl))) (hw _ (List.mem_of_getElem? (i := 2) rfl)) (ty := .int) (by decide) rfl rfl (g := (mkF m 44 #[.val (.ref ob), .val (.int x9), .val (.int (Int32.ofNat cb))] [(.int (Int32.ofNat (0 + 1))), (.ref ob)])) rfl rfl (hb hby d74_44)
  refine Gl.st st11 ?_
  have Z0_v11 : n0 ≤ h11.size := Nat.le_trans Z0_v9 (Keep.of_wr W11).1
  have EO_v11 : Exa Z h11 ob "com/example/cotab/cotab/ChunkedBytes" := EO_v9.wr W11
  have FC_v11 : Fld Z h11 ob "com/example/cotab/cotab/ChunkedBytes" "chunks" "Ljava/util/List;" (.ref li) := FC_v9.other W11 (Or.inr (slot_ne (Or.inr (hw _ (List.mem_of_getElem? (i := 40) rfl))) (Or.inl (hw _ (List.mem_of_getElem? (i := 64) rfl))) (by decide) (t := (.object "java/util/List")) (t' := .int) (by decide) (by decide)))
  have FB_v11 : Fld Z h11 ob "com/example/cotab/cotab/ChunkedBytes" "chunkBytes" "I" (.int (Int32.ofNat cb)) := FB_v9.other W11 (Or.inr (slot_ne (Or.inr (hw _ (List.mem_of_getElem? (i := 42) rfl))) (Or.inl (hw _ (List.mem_of_getElem? (i := 64) rfl))) (by decide) (t := .int) (t' := .int) (by decide) (by decide)))
  have ELr_v11 : Exa Z h11 li "java/util/ArrayList" := ELr_v9.wr W11
  have VDA_v11 : Arv Z h11 da kda .byte (16 : Int32) bsd (.int (0 : Int32)) := VDA_v9.other W11 (Ne.symm ne_ob_dar)
  have O1q_v11 : Old Z n0 h11 := O1q_v9.wr W11 go
  have FDr_v11 : Fld Z h11 li "java/util/ArrayList" "elementData" "[Ljava/lang/Object;" (.ref ed2) := FDr_v9.other W11 (Or.inl ne_li_obr)
  have FSr_v11 : Fld Z h11 li "java/util/ArrayList" "size" "I" (.int (Int32.ofNat (0 + 1))) := FSr_v9.other W11 (Or.inl ne_li_obr)
  have FMr_v11 : Fld Z h11 li "java/util/AbstractList" "modCount" "I" (.int mc2) := FMr_v9.other W11 (Or.inl ne_li_obr)
  have EEr_v11 : Exa Z h11 ed2 "[Ljava/lang/Object;" := EEr_v9.wr W11
  have VEr_v11 : Arv Z h11 ed2 ke2 (.object "java/lang/Object") (Int32.ofNat cap2) vs2 .null := VEr_v9.other W11 (Ne.symm ne_ob_ed2r)
  have LEr_v11 : own_El Z h11 vs2 := own_El_wr W11 LEr_v9
  have EC1_v11 : Exa Z h11 ck "[B" := EC1_v9.wr W11
  have VN9_v11 : Arv Z h11 ck kk .byte (Int32.ofNat cb) ((List.replicate cb (.int (0 : Int32))).set 0 (.int (nar .byte (x9.toInt8.toInt32)))) (.int (0 : Int32)) := VN9.other W11 (Ne.symm ne_ob_ckr)
  have Fw11 : Fld Z h11 ob "com/example/cotab/cotab/ChunkedBytes" "size" "I" (.int (Int32.ofNat (0 + 1))) := FZ_v9.same W11
  have N11 := Fr.snoc X11 N9 go
  show Gl p e below P (T11.setTop (mkF m 47 #[.val (.ref ob), .val (.int x9), .val (.int (Int32.ofNat cb))] []))
  obtain ⟨fs, hr, hrun, hended, hW, hsame⟩ := X11.leave (v := none) (fun _ => rfl)
  refine ⟨_, _, X11.returnOut hx Bd.returns (hb hby d74_47) hr, hrun, hended, hPost _ _ ⟨_, _, rfl, ?_, ⟨_, rfl⟩, hW, hsame.mono (by decide) (show (((0 + (cb + gr)) + 0) + 0) ≤ 30 by omega)⟩⟩
  show Q74 Z ob li ed ke cap vs mc dc cb mir x9 da kda bsd h0 n0 _ T11.heap _
  rw [e11]
  exact ⟨rfl, N11, O1q_v11, VDA_v11, _, _, _, _, _, _, _, _, ⟨EO_v11, FC_v11, FB_v11, Fw11⟩, ⟨ELr_v11, FDr_v11, FSr_v11, FMr_v11, EEr_v11, VEr_v11, LEr_v11, hvlr, hncr, hcpr⟩, gd1, VN9_v11, by rw [List.length_set]; exact List.length_replicate .., Ne.symm ne_da_ck, g_ck⟩
theorem pn_76 : plainName "java/util/ArrayList" = true := by first | (simp [plainName, overriddenIn]; done) | decide +kernel
theorem ef_76 (m : MethodId) (x0 : Addr) : entryFrame m #[(.ref x0)] 4 = mkF m 0 #[.val (.ref x0), .unset, .unset, .unset] [] := by first | (simp [entryFrame, mkF, argsToLocals, Value.category]; done) | rfl
def Q76 (Z : State) (li : Addr) (ed : Addr) (ke : ClassId) (cap : Nat) (n : Nat) (vs : List Value) (mc : Int32) (dc : Addr) (h0 : Heap) (n0 : Nat) (v : Option Value) (h : Heap) (L : List Loc) : Prop := v = none ∧ Fr n0 L ∧ Keep h0 h [li, ed] ∧ Old Z n0 h ∧ ∃ vs2 mc2, own_Ls Z n0 dc h li ed ke cap 0 vs2 mc2
set_option maxRecDepth 65536 in
set_option maxHeartbeats 40000000 in
theorem rm76 (l : Launch) (Z : State) (a0 : Array Value) (hw : ∀ d ∈ tables_1, d.before a0 Z = true) (ws : List Jvm.Cond) (li : Addr) (ed : Addr) (ke : ClassId) (cap : Nat) (n : Nat) (vs : List Value) (mc : Int32) (dc : Addr) (h0 : Heap) (n0 : Nat) (Z0 : n0 ≤ h0.size) (HL : own_Ls Z n0 dc h0 li ed ke cap n vs mc) (gi : n0 ≤ li) (O0 : Old Z n0 h0) :
    MetFree l (⟨"java/util/ArrayList", "clear", "()V"⟩ : MethodName) (head1 (Jvm.Cond.code (⟨"java/util/ArrayList", "clear", "()V"⟩ : MethodName) jdk_38_method_40_code 4 none :: ws) ({ frames := 0, cells := 0, slots := 0, locals := 0 } : Room)) (fun a U => a = #[(.ref li)] ∧ Z.Warmed39 U.vm ∧ U.heap = h0) (fun _ _ _ _ _ => True) (fun _ U o U' => ∃ v L, o = .returned v ∧ Q76 Z li ed ke cap n vs mc dc h0 n0 v U'.heap L ∧ FrameEnd U o U' L ({ frames := 0, cells := 0, slots := 0, locals := 0 } : Room).cells ({ frames := 0, cells := 0, slots := 0, locals := 0 } : Room).slots) := by
  refine MetFree.of_bodySF (plainFor_of_name pn_76) hisR ?_
  intro p e s m args below meth c s₁ Bd hml0 hP hK
  obtain ⟨rfl, hZ, hh⟩ := hP
  have hx := Bd.exec
  have hby := Bd.bytes
  have hml : c.maxLocals = 4 := hml0
  have hown : s.vm.findClass "java/util/ArrayList" = some m.cls := findClass_of_methodNamed Bd.named
  have hnm := (name_of_methodNamed Bd.named Bd.method).1
  have X0 : Stand p l e ({ frames := 0, cells := 0, slots := 0, locals := 0 } : Room) s m #[(.ref li)] below meth c s₁ [] 0 0 := Stand.of_body Bd
  have e0 : s₁.heap = h0 := by rw [← hh, Bd.state]; rfl
  have N0 := Fr.nil n0
  refine Gl.gen fun P hPost => ?_
  refine Gl.st (fun _ k => castTop (ef_76 m li ) k) ?_
  show Gl p e below P (s₁.setTop (mkF m 0 #[.val (.ref li), .unset, .unset, .unset] []))
  obtain ⟨EL, FD, FS, FM, EE, VE, LE, hvl, hnc, hcp⟩ := id HL
  have nle : li ≠ ed := EL.neArv VE (hw _ (List.mem_of_getElem? (i := 16) rfl))
  have hc22 : cap ≤ 22 := by rcases hcp with ⟨q, -⟩ | ⟨q | q | q, -⟩ <;> omega
  refine Gl.st (fun _ k => XS.aloadN X0.here hx rfl (hb hby d76_0) rfl rfl k) ?_
  show Gl p e below P (s₁.setTop (mkF m 1 #[.val (.ref li), .unset, .unset, .unset] [(.ref li)]))
  refine Gl.st (fun _ k => XS.dup X0.here hx rfl (hb hby d76_1) rfl rfl k) ?_
  show Gl p e below P (s₁.setTop (mkF m 2 #[.val (.ref li), .unset, .unset, .unset] [(.ref li), (.ref li)]))
  obtain ⟨T1, X1, e1, st1⟩ := getF X0 hx hZ hown (host := "") (Or.inl (hw _ (List.mem_of_getElem? (i := 73) rfl))) (Via.of (hw _ (List.mem_of_getElem? (i := 74) rfl))) e0 FM (g := (mkF m 2 #[.val (.ref li), .unset, .unset, .unset] [(.ref li), (.ref li)])) rfl rfl (hb hby d76_2)
  refine Gl.st st1 ?_
  show Gl p e below P (T1.setTop (mkF m 5 #[.val (.ref li), .unset, .unset, .unset] [(.int mc), (.ref li)]))
  refine Gl.st (fun _ k => XS.iconst X1.here hx rfl (hb hby d76_5) k) ?_
  show Gl p e below P (T1.setTop (mkF m 6 #[.val (.ref li), .unset, .unset, .unset] [(.int (1 : Int32)), (.int mc), (.ref li)]))
  refine Gl.st (fun _ k => XS.iadd X1.here hx rfl (hb hby d76_6) rfl k) ?_
  show Gl p e below P (T1.setTop (mkF m 7 #[.val (.ref li), .unset, .unset, .unset] [(.int (mc + (1 : Int32))), (.ref li)]))
  obtain ⟨T2, h2, X2, e2, W2, st2⟩ := putF X1 hx hZ hown (host := "") (Or.inl (hw _ (List.mem_of_getElem? (i := 73) rfl))) (Via.of (hw _ (List.mem_of_getElem? (i := 74) rfl))) e1 FM EL (Or.inl (hw _ (List.mem_of_getElem? (i := 35) rfl))) (hw _ (List.mem_of_getElem? (i := 16) rfl)) (ty := .int) (by decide) rfl rfl (g := (mkF m 7 #[.val (.ref li), .unset, .unset, .unset] [(.int (mc + (1 : Int32))), (.ref li)])) rfl rfl (hb hby d76_7)
  refine Gl.st st2 ?_
  have Z0_v2 : n0 ≤ h2.size := Nat.le_trans Z0 (Keep.of_wr W2).1
  have EL_v2 : Exa Z h2 li "java/util/ArrayList" := EL.wr W2
  have FD_v2 : Fld Z h2 li "java/util/ArrayList" "elementData" "[Ljava/lang/Object;" (.ref ed) := FD.other W2 (Or.inr (slot_ne (Or.inl (hw _ (List.mem_of_getElem? (i := 38) rfl))) (Or.inl (hw _ (List.mem_of_getElem? (i := 35) rfl))) (by decide) (t := (.array (.object "java/lang/Object"))) (t' := .int) (by decide) (by decide)))
  have FS_v2 : Fld Z h2 li "java/util/ArrayList" "size" "I" (.int (Int32.ofNat n)) := FS.other W2 (Or.inr (slot_ne (Or.inl (hw _ (List.mem_of_getElem? (i := 62) rfl))) (Or.inl (hw _ (List.mem_of_getElem? (i := 35) rfl))) (by decide) (t := .int) (t' := .int) (by decide) (by decide)))
  have EE_v2 : Exa Z h2 ed "[Ljava/lang/Object;" := EE.wr W2
  have VE_v2 : Arv Z h2 ed ke (.object "java/lang/Object") (Int32.ofNat cap) vs .null := VE.other W2 (Ne.symm nle)
  have LE_v2 : own_El Z h2 vs := own_El_wr W2 LE
  have O0_v2 : Old Z n0 h2 := O0.wr W2 gi
  have f_K_v2 : Keep h0 h2 [li, ed] := (Keep.refl h0 [li, ed]).wr W2 (Or.inl (List.mem_of_getElem? (i := 0) rfl))
  have Fw2 : Fld Z h2 li "java/util/AbstractList" "modCount" "I" (.int (mc + (1 : Int32))) := FM.same W2
  have N2 := Fr.snoc X2 N0 gi
  show Gl p e below P (T2.setTop (mkF m 10 #[.val (.ref li), .unset, .unset, .unset] []))
  refine Gl.st (fun _ k => XS.aloadN X2.here hx rfl (hb hby d76_10) rfl rfl k) ?_
  show Gl p e below P (T2.setTop (mkF m 11 #[.val (.ref li), .unset, .unset, .unset] [(.ref li)]))
  obtain ⟨T3, X3, e3, st3⟩ := getF X2 hx hZ hown (host := "") (Or.inl (hw _ (List.mem_of_getElem? (i := 37) rfl))) Via.refl e2 FD_v2 (g := (mkF m 11 #[.val (.ref li), .unset, .unset, .unset] [(.ref li)])) rfl rfl (hb hby d76_11)
  refine Gl.st st3 ?_
  show Gl p e below P (T3.setTop (mkF m 14 #[.val (.ref li), .unset, .unset, .unset] [(.ref ed)]))
  refine Gl.st (fun _ k => XS.astoreN X3.here hx rfl (hb hby d76_14) rfl rfl (l' := #[.val (.ref li), .val (.ref ed), .unset, .unset]) rfl k) ?_
  show Gl p e below P (T3.setTop (mkF m 15 #[.val (.ref li), .val (.ref ed), .unset, .unset] []))
  refine Gl.st (fun _ k => XS.aloadN X3.here hx rfl (hb hby d76_15) rfl rfl k) ?_
  show Gl p e below P (T3.setTop (mkF m 16 #[.val (.ref li), .val (.ref ed), .unset, .unset] [(.ref li)]))
  obtain ⟨T4, X4, e4, st4⟩ := getF X3 hx hZ hown (host := "") (Or.inl (hw _ (List.mem_of_getElem? (i := 61) rfl))) Via.refl e3 FS_v2 (g := (mkF m 16 #[.val (.ref li), .val (.ref ed), .unset, .unset] [(.ref li)])) rfl rfl (hb hby d76_16)
  refine Gl.st st4 ?_
  show Gl p e below P (T4.setTop (mkF m 19 #[.val (.ref li), .val (.ref ed), .unset, .unset] [(.int (Int32.ofNat n))]))
  refine Gl.st (fun _ k => XS.istoreN X4.here hx rfl (hb hby d76_19) rfl (l' := #[.val (.ref li), .val (.ref ed), .val (.int (Int32.ofNat n)), .unset]) rfl k) ?_
  show Gl p e below P (T4.setTop (mkF m 20 #[.val (.ref li), .val (.ref ed), .val (.int (Int32.ofNat n)), .unset] []))
  refine Gl.st (fun _ k => XS.aloadN X4.here hx rfl (hb hby d76_20) rfl rfl k) ?_
  show Gl p e below P (T4.setTop (mkF m 21 #[.val (.ref li), .val (.ref ed), .val (.int (Int32.ofNat n)), .unset] [(.ref li)]))
  refine Gl.st (fun _ k => XS.iconst X4.here hx rfl (hb hby d76_21) k) ?_
  show Gl p e below P (T4.setTop (mkF m 22 #[.val (.ref li), .val (.ref ed), .val (.int (Int32.ofNat n)), .unset] [(.int (0 : Int32)), (.ref li)]))
  refine Gl.st (fun _ k => XS.dupX1 X4.here hx rfl (hb hby d76_22) rfl rfl rfl k) ?_
  show Gl p e below P (T4.setTop (mkF m 23 #[.val (.ref li), .val (.ref ed), .val (.int (Int32.ofNat n)), .unset] [(.int (0 : Int32)), (.ref li), (.int (0 : Int32))]))
  obtain ⟨T5, h5, X5, e5, W5, st5⟩ := putF X4 hx hZ hown (host := "") (Or.inl (hw _ (List.mem_of_getElem? (i := 61) rfl))) Via.refl e4 FS_v2 EL_v2 (Or.inl (hw _ (List.mem_of_getElem? (i := 62) rfl))) (hw _ (List.mem_of_getElem? (i := 16) rfl)) (ty := .int) (by decide) rfl rfl (g := (mkF m 23 #[.val (.ref li), .val (.ref ed), .val (.int (Int32.ofNat n)), .unset] [(.int (0 : Int32)), (.ref li), (.int (0 : Int32))])) rfl rfl (hb hby d76_23)
  refine Gl.st st5 ?_
  have Z0_v5 : n0 ≤ h5.size := Nat.le_trans Z0_v2 (Keep.of_wr W5).1
  have EL_v5 : Exa Z h5 li "java/util/ArrayList" := EL_v2.wr W5
  have FD_v5 : Fld Z h5 li "java/util/ArrayList" "elementData" "[Ljava/lang/Object;" (.ref ed) := FD_v2.other W5 (Or.inr (slot_ne (Or.inl (hw _ (List.mem_of_getElem? (i := 38) rfl))) (Or.inl (hw _ (List.mem_of_getElem? (i := 62) rfl))) (by decide) (t := (.array (.object "java/lang/Object"))) (t' := .int) (by decide) (by decide)))
  have EE_v5 : Exa Z h5 ed "[Ljava/lang/Object;" := EE_v2.wr W5
  have VE_v5 : Arv Z h5 ed ke (.object "java/lang/Object") (Int32.ofNat cap) vs .null := VE_v2.other W5 (Ne.symm nle)
  have LE_v5 : own_El Z h5 vs := own_El_wr W5 LE_v2
  have O0_v5 : Old Z n0 h5 := O0_v2.wr W5 gi
  have f_K_v5 : Keep h0 h5 [li, ed] := f_K_v2.wr W5 (Or.inl (List.mem_of_getElem? (i := 0) rfl))
  have Fw2_v5 : Fld Z h5 li "java/util/AbstractList" "modCount" "I" (.int (mc + (1 : Int32))) := Fw2.other W5 (Or.inr (slot_ne (Or.inl (hw _ (List.mem_of_getElem? (i := 35) rfl))) (Or.inl (hw _ (List.mem_of_getElem? (i := 62) rfl))) (by decide) (t := .int) (t' := .int) (by decide) (by decide)))
  have Fw5 : Fld Z h5 li "java/util/ArrayList" "size" "I" (.int (0 : Int32)) := FS_v2.same W5
  have N5 := Fr.snoc X5 N2 gi
  show Gl p e below P (T5.setTop (mkF m 26 #[.val (.ref li), .val (.ref ed), .val (.int (Int32.ofNat n)), .unset] [(.int (0 : Int32))]))
  refine Gl.st (fun _ k => XS.istoreN X5.here hx rfl (hb hby d76_26) rfl (l' := #[.val (.ref li), .val (.ref ed), .val (.int (Int32.ofNat n)), .val (.int (0 : Int32))]) rfl k) ?_
  show Gl p e below P (T5.setTop (mkF m 27 #[.val (.ref li), .val (.ref ed), .val (.int (Int32.ofNat n)), .val (.int (0 : Int32))] []))
  have LPk : ∀ k : Nat, ∀ i : Nat, ∀ us : List Value, ∀ (T6 : State) (locs6 : List Loc) (h6 : Heap), Stand p l e ({ frames := 0, cells := 0, slots := 0, locals := 0 } : Room) s m #[(.ref li)] below meth c T6 locs6 0 0 → T6.heap = h6 → Fr n0 locs6 → n0 ≤ h6.size → Old Z n0 h6 → Keep h0 h6 [li, ed] → Exa Z h6 li "java/util/ArrayList" → Fld Z h6 li "java/util/ArrayList" "elementData" "[Ljava/lang/Object;" (.ref ed) → Fld Z h6 li "java/util/ArrayList" "size" "I" (.int (Int32.ofNat 0)) → Fld Z h6 li "java/util/AbstractList" "modCount" "I" (.int (mc + (1 : Int32))) → Exa Z h6 ed "[Ljava/lang/Object;" → Arv Z h6 ed ke (.object "java/lang/Object") (Int32.ofNat cap) us .null → own_El Z h6 us → us.length = cap → n - i ≤ k → i ≤ n → Gl p e below P (T6.setTop (mkF m 27 #[.val (.ref li), .val (.ref ed), .val (.int (Int32.ofNat n)), .val (.int (Int32.ofNat i))] [])) := by
    intro k
    induction k with
    | zero =>
      intro i us T6 locs6 h6 X6 e6 N6 J6_Z J6_O J6_K J6_E_li J6_F_li_elementData J6_F_li_size J6_F_li_modCount J6_E_ed J6_V_ed J6_L hul hik hin
      show Gl p e below P (T6.setTop (mkF m 27 #[.val (.ref li), .val (.ref ed), .val (.int (Int32.ofNat n)), .val (.int (Int32.ofNat i))] []))
      refine Gl.st (fun _ k => XS.iloadN X6.here hx rfl (hb hby d76_27) rfl k) ?_
      show Gl p e below P (T6.setTop (mkF m 28 #[.val (.ref li), .val (.ref ed), .val (.int (Int32.ofNat n)), .val (.int (Int32.ofNat i))] [(.int (Int32.ofNat i))]))
      refine Gl.st (fun _ k => XS.iloadN X6.here hx rfl (hb hby d76_28) rfl k) ?_
      show Gl p e below P (T6.setTop (mkF m 29 #[.val (.ref li), .val (.ref ed), .val (.int (Int32.ofNat n)), .val (.int (Int32.ofNat i))] [(.int (Int32.ofNat n)), (.int (Int32.ofNat i))]))
      refine Gl.st (fun _ k => XS.icmpYes X6.here hx rfl (pc0 := 29) (pc' := 42) rfl (hb hby d76_29) rfl (flt (fun q => absurd ((own_lt i n (by omega) (by omega)).mp q) (by omega) : ¬ ((Int32.ofNat i) < (Int32.ofNat n)))).2.1 (by decide) (by decide) k) ?_
      show Gl p e below P (T6.setTop (mkF m 42 #[.val (.ref li), .val (.ref ed), .val (.int (Int32.ofNat n)), .val (.int (Int32.ofNat i))] []))
      obtain ⟨fs, hr, hrun, hended, hW, hsame⟩ := X6.leave (v := none) (fun _ => rfl)
      refine ⟨_, _, X6.returnOut hx Bd.returns (hb hby d76_42) hr, hrun, hended, hPost _ _ ⟨_, _, rfl, ?_, ⟨_, rfl⟩, hW, hsame.mono (by decide) (by decide)⟩⟩
      show Q76 Z li ed ke cap n vs mc dc h0 n0 _ T6.heap _
      rw [e6]
      exact ⟨rfl, N6, J6_K, J6_O, us, _, ⟨J6_E_li, J6_F_li_elementData, J6_F_li_size, J6_F_li_modCount, J6_E_ed, J6_V_ed, J6_L, hul, (Nat.zero_le _), hcp⟩⟩
    | succ k ih =>
      intro i us T6 locs6 h6 X6 e6 N6 J6_Z J6_O J6_K J6_E_li J6_F_li_elementData J6_F_li_size J6_F_li_modCount J6_E_ed J6_V_ed J6_L hul hik hin
      show Gl p e below P (T6.setTop (mkF m 27 #[.val (.ref li), .val (.ref ed), .val (.int (Int32.ofNat n)), .val (.int (Int32.ofNat i))] []))
      refine Gl.st (fun _ k => XS.iloadN X6.here hx rfl (hb hby d76_27) rfl k) ?_
      show Gl p e below P (T6.setTop (mkF m 28 #[.val (.ref li), .val (.ref ed), .val (.int (Int32.ofNat n)), .val (.int (Int32.ofNat i))] [(.int (Int32.ofNat i))]))
      refine Gl.st (fun _ k => XS.iloadN X6.here hx rfl (hb hby d76_28) rfl k) ?_
      show Gl p e below P (T6.setTop (mkF m 29 #[.val (.ref li), .val (.ref ed), .val (.int (Int32.ofNat n)), .val (.int (Int32.ofNat i))] [(.int (Int32.ofNat n)), (.int (Int32.ofNat i))]))
      by_cases hc : i < n
      · refine Gl.st (fun _ k => XS.icmpNo X6.here hx rfl (hb hby d76_29) rfl (tlt ((own_lt i n (by omega) (by omega)).mpr hc : (Int32.ofNat i) < (Int32.ofNat n))).2.1 k) ?_
        show Gl p e below P (T6.setTop (mkF m 32 #[.val (.ref li), .val (.ref ed), .val (.int (Int32.ofNat n)), .val (.int (Int32.ofNat i))] []))
        refine Gl.st (fun _ k => XS.aloadN X6.here hx rfl (hb hby d76_32) rfl rfl k) ?_
        show Gl p e below P (T6.setTop (mkF m 33 #[.val (.ref li), .val (.ref ed), .val (.int (Int32.ofNat n)), .val (.int (Int32.ofNat i))] [(.ref ed)]))
        refine Gl.st (fun _ k => XS.iloadN X6.here hx rfl (hb hby d76_33) rfl k) ?_
        show Gl p e below P (T6.setTop (mkF m 34 #[.val (.ref li), .val (.ref ed), .val (.int (Int32.ofNat n)), .val (.int (Int32.ofNat i))] [(.int (Int32.ofNat i)), (.ref ed)]))
        refine Gl.st (fun _ k => XS.aconstNull X6.here hx rfl (hb hby d76_34) k) ?_
        show Gl p e below P (T6.setTop (mkF m 35 #[.val (.ref li), .val (.ref ed), .val (.int (Int32.ofNat n)), .val (.int (Int32.ofNat i))] [.null, (.int (Int32.ofNat i)), (.ref ed)]))
        have ge : n0 ≤ ed := by rcases hcp with ⟨q, -⟩ | ⟨-, q, -⟩; omega; exact q
        obtain ⟨c7, Ar7, q7, S7, M7, H7, U7⟩ := id J6_V_ed
        obtain ⟨T8, h8, X8, e8, W8, st8⟩ := stR X6 hx hZ e6 Ar7 (j := (Int32.ofNat i)) (inb_of S7 ⟨own_neg i (by omega), (own_lt i cap (by omega) (by omega)).mpr (by omega)⟩) rfl (Or.inl rfl) (g := (mkF m 35 #[.val (.ref li), .val (.ref ed), .val (.int (Int32.ofNat n)), .val (.int (Int32.ofNat i))] [.null, (.int (Int32.ofNat i)), (.ref ed)])) rfl rfl (hb hby d76_35)
        refine Gl.st st8 ?_
        have J6_Z_v8 : n0 ≤ h8.size := Nat.le_trans J6_Z (Keep.of_wr W8).1
        have J6_O_v8 : Old Z n0 h8 := J6_O.wr W8 ge
        have J6_K_v8 : Keep h0 h8 [li, ed] := J6_K.wr W8 (Or.inl (List.mem_of_getElem? (i := 1) rfl))
        have J6_E_li_v8 : Exa Z h8 li "java/util/ArrayList" := J6_E_li.wr W8
        have J6_F_li_elementData_v8 : Fld Z h8 li "java/util/ArrayList" "elementData" "[Ljava/lang/Object;" (.ref ed) := J6_F_li_elementData.other W8 (Or.inl nle)
        have J6_F_li_size_v8 : Fld Z h8 li "java/util/ArrayList" "size" "I" (.int (Int32.ofNat 0)) := J6_F_li_size.other W8 (Or.inl nle)
        have J6_F_li_modCount_v8 : Fld Z h8 li "java/util/AbstractList" "modCount" "I" (.int (mc + (1 : Int32))) := J6_F_li_modCount.other W8 (Or.inl nle)
        have J6_E_ed_v8 : Exa Z h8 ed "[Ljava/lang/Object;" := J6_E_ed.wr W8
        have J6_L_v8 : own_El Z h8 us := own_El_wr W8 J6_L
        have VN8 : Arv Z h8 ed ke (.object "java/lang/Object") (Int32.ofNat cap) (us.set i .null) .null := Arv.set Ar7 q7 S7 M7 H7 U7 rfl W8 _ (own_nn i (by omega)) (by rw [hul]; omega)
        have LN8 : own_El Z h8 (us.set i .null) := own_El_set J6_L_v8 (Or.inl rfl) i
        have N8 := Fr.snoc X8 N6 ge
        show Gl p e below P (T8.setTop (mkF m 36 #[.val (.ref li), .val (.ref ed), .val (.int (Int32.ofNat n)), .val (.int (Int32.ofNat i))] []))
        refine Gl.st (fun _ k => XS.iinc X8.here hx rfl (hb hby d76_36) rfl (l' := #[.val (.ref li), .val (.ref ed), .val (.int (Int32.ofNat n)), .val (.int ((Int32.ofNat i) + (1 : Int32)))]) rfl k) ?_
        show Gl p e below P (T8.setTop (mkF m 39 #[.val (.ref li), .val (.ref ed), .val (.int (Int32.ofNat n)), .val (.int ((Int32.ofNat i) + (1 : Int32)))] []))
        refine Gl.st (fun _ k => XS.goto X8.here hx rfl (pc0 := 39) (pc' := 27) rfl (hb hby d76_39) (by decide) (by decide) k) ?_
        show Gl p e below P (T8.setTop (mkF m 27 #[.val (.ref li), .val (.ref ed), .val (.int (Int32.ofNat n)), .val (.int ((Int32.ofNat i) + (1 : Int32)))] []))
        rw [own_s i]
        show Gl p e below P (T8.setTop (mkF m 27 #[.val (.ref li), .val (.ref ed), .val (.int (Int32.ofNat n)), .val (.int (Int32.ofNat (i + 1)))] []))
        exact ih (i + 1) _ T8 _ _ (X8.mono (by decide) (by decide)) e8 N8 J6_Z_v8 J6_O_v8 J6_K_v8 J6_E_li_v8 J6_F_li_elementData_v8 J6_F_li_size_v8 J6_F_li_modCount_v8 J6_E_ed_v8 VN8 LN8 (by rw [List.length_set]; exact hul) (by omega) (by omega)
      · refine Gl.st (fun _ k => XS.icmpYes X6.here hx rfl (pc0 := 29) (pc' := 42) rfl (hb hby d76_29) rfl (flt (fun q => hc ((own_lt i n (by omega) (by omega)).mp q) : ¬ ((Int32.ofNat i) < (Int32.ofNat n)))).2.1 (by decide) (by decide) k) ?_
        show Gl p e below P (T6.setTop (mkF m 42 #[.val (.ref li), .val (.ref ed), .val (.int (Int32.ofNat n)), .val (.int (Int32.ofNat i))] []))
        obtain ⟨fs, hr, hrun, hended, hW, hsame⟩ := X6.leave (v := none) (fun _ => rfl)
        refine ⟨_, _, X6.returnOut hx Bd.returns (hb hby d76_42) hr, hrun, hended, hPost _ _ ⟨_, _, rfl, ?_, ⟨_, rfl⟩, hW, hsame.mono (by decide) (by decide)⟩⟩
        show Q76 Z li ed ke cap n vs mc dc h0 n0 _ T6.heap _
        rw [e6]
        exact ⟨rfl, N6, J6_K, J6_O, us, _, ⟨J6_E_li, J6_F_li_elementData, J6_F_li_size, J6_F_li_modCount, J6_E_ed, J6_V_ed, J6_L, hul, (Nat.zero_le _), hcp⟩⟩
  exact LPk n 0 vs T5 _ _ (X5.mono (by decide) (by decide)) e5 N5 Z0_v5 O0_v5 f_K_v5 EL_v5 FD_v5 Fw5 Fw2_v5 EE_v5 VE_v5 LE_v5 hvl (by omega) (Nat.zero_le _)
theorem pn_77 : plainName "com/example/cotab/cotab/ChunkedBytes" = true := by first | (simp [plainName, overriddenIn]; done) | decide +kernel
theorem ef_77 (m : MethodId) (x0 : Addr) : entryFrame m #[(.ref x0)] 1 = mkF m 0 #[.val (.ref x0)] [] := by first | (simp [entryFrame, mkF, argsToLocals, Value.category]; done) | rfl
def Q77 (Z : State) (ob : Addr) (li : Addr) (ed : Addr) (ke : ClassId) (cap : Nat) (n : Nat) (vs : List Value) (mc : Int32) (dc : Addr) (cb : Nat) (sz : Nat) (da : Addr) (kda : ClassId) (bsd : List Value) (h0 : Heap) (n0 : Nat) (v : Option Value) (h : Heap) (L : List Loc) : Prop := v = none ∧ Fr n0 L ∧ Old Z n0 h ∧ Arv Z h da kda .byte (16 : Int32) bsd (.int (0 : Int32)) ∧ ∃ vs2 mc2, own_Ob Z h ob li cb 0 ∧ own_Ls Z n0 dc h li ed ke cap 0 vs2 mc2
set_option maxRecDepth 65536 in
set_option maxHeartbeats 40000000 in
theorem rm77 (l : Launch) (Z : State) (a0 : Array Value) (hw : ∀ d ∈ tables_1, d.before a0 Z = true) (ws : List Jvm.Cond) (ob : Addr) (li : Addr) (ed : Addr) (ke : ClassId) (cap : Nat) (n : Nat) (vs : List Value) (mc : Int32) (dc : Addr) (cb : Nat) (sz : Nat) (da : Addr) (kda : ClassId) (bsd : List Value) (h0 : Heap) (n0 : Nat) (Z0 : n0 ≤ h0.size) (HO : own_Ob Z h0 ob li cb sz) (HL : own_Ls Z n0 dc h0 li ed ke cap n vs mc) (go : n0 ≤ ob) (gi : n0 ≤ li) (O0 : Old Z n0 h0) (VDA : Arv Z h0 da kda .byte (16 : Int32) bsd (.int (0 : Int32))) :
    MetFree l (⟨"com/example/cotab/cotab/ChunkedBytes", "clear", "()V"⟩ : MethodName) (head1 (Jvm.Cond.code (⟨"com/example/cotab/cotab/ChunkedBytes", "clear", "()V"⟩ : MethodName) prog_2_method_8_code 1 none :: ws) ({ frames := 1, cells := 0, slots := 0, locals := 16 } : Room)) (fun a U => a = #[(.ref ob)] ∧ Z.Warmed39 U.vm ∧ U.heap = h0) (fun _ _ _ _ _ => True) (fun _ U o U' => ∃ v L, o = .returned v ∧ Q77 Z ob li ed ke cap n vs mc dc cb sz da kda bsd h0 n0 v U'.heap L ∧ FrameEnd U o U' L ({ frames := 1, cells := 0, slots := 0, locals := 16 } : Room).cells ({ frames := 1, cells := 0, slots := 0, locals := 16 } : Room).slots) := by
  refine MetFree.of_bodySF (plainFor_of_name pn_77) hisR ?_
  intro p e s m args below meth c s₁ Bd hml0 hP hK
  obtain ⟨rfl, hZ, hh⟩ := hP
  have hx := Bd.exec
  have hby := Bd.bytes
  have hml : c.maxLocals = 1 := hml0
  have hown : s.vm.findClass "com/example/cotab/cotab/ChunkedBytes" = some m.cls := findClass_of_methodNamed Bd.named
  have hnm := (name_of_methodNamed Bd.named Bd.method).1
  have X0 : Stand p l e ({ frames := 1, cells := 0, slots := 0, locals := 16 } : Room) s m #[(.ref ob)] below meth c s₁ [] 0 0 := Stand.of_body Bd
  have e0 : s₁.heap = h0 := by rw [← hh, Bd.state]; rfl
  have N0 := Fr.nil n0
  refine Gl.gen fun P hPost => ?_
  refine Gl.st (fun _ k => castTop (ef_77 m ob ) k) ?_
  show Gl p e below P (s₁.setTop (mkF m 0 #[.val (.ref ob)] []))
  obtain ⟨EO, FC, FB, FZ⟩ := id HO
  obtain ⟨EL, FD, FS, FM, EE, VE, LE, hvl, hnc, hcp⟩ := id HL
  have nle : li ≠ ed := EL.neArv VE (hw _ (List.mem_of_getElem? (i := 16) rfl))
  have ne_li_ob : li ≠ ob := ne_exa EL EO (by decide)
  have ne_ob_ed : ob ≠ ed := EO.neArv VE (hw _ (List.mem_of_getElem? (i := 2) rfl))
  have ne_li_da : li ≠ da := EL.neArv VDA (hw _ (List.mem_of_getElem? (i := 16) rfl))
  have ne_ob_da : ob ≠ da := EO.neArv VDA (hw _ (List.mem_of_getElem? (i := 2) rfl))
  have ne_ed_da : ed ≠ da := own_arv_ne VE VDA (by decide)
  refine Gl.st (fun _ k => XS.aloadN X0.here hx rfl (hb hby d77_0) rfl rfl k) ?_
  show Gl p e below P (s₁.setTop (mkF m 1 #[.val (.ref ob)] [(.ref ob)]))
  obtain ⟨T1, X1, e1, st1⟩ := getF X0 hx hZ hown (host := "") (Or.inl (hw _ (List.mem_of_getElem? (i := 39) rfl))) Via.refl e0 FC (g := (mkF m 1 #[.val (.ref ob)] [(.ref ob)])) rfl rfl (hb hby d77_1)
  refine Gl.st st1 ?_
  show Gl p e below P (T1.setTop (mkF m 4 #[.val (.ref ob)] [(.ref li)]))
  obtain ⟨cq2, kq2, q2a, q2b, q2c⟩ := isOf hZ e1 EL
  obtain ⟨_, _, ⟨T2, L2, k2, n2⟩, -, X2, ⟨Lc2, hQ2, l2, y2, z2⟩, st2⟩ := X1.interfaceBack hx (xi := (⟨"java/util/List", "clear", "()V"⟩ : MethodName)) (y := (⟨"java/util/ArrayList", "clear", "()V"⟩ : MethodName)) hown (mvT hZ (hw _ (List.mem_of_getElem? (i := 135) rfl))) (mvT hZ (hw _ (List.mem_of_getElem? (i := 136) rfl))) (mvT hZ (hw _ (List.mem_of_getElem? (i := 137) rfl))) (mvT hZ (hw _ (List.mem_of_getElem? (i := 138) rfl))) (mvT hZ (hw _ (List.mem_of_getElem? (i := 139) rfl))) (mvT hZ (hw _ (List.mem_of_getElem? (i := 140) rfl))) (mvT hZ (hw _ (List.mem_of_getElem? (i := 141) rfl))) (mvT hZ (hw _ (List.mem_of_getElem? (i := 59) rfl))) (by decide) (backOf (W := 0) (rm76 l Z a0 hw [] li ed ke cap n vs mc dc h0 n0 Z0 HL gi O0) hZ (hw _ (List.mem_of_getElem? (i := 142) rfl)) (hw _ (List.mem_of_getElem? (i := 17) rfl)) (by decide) (by decide)) q2a q2b q2c (g := (mkF m 4 #[.val (.ref ob)] [(.ref li)])) rfl (by rw [hml]; rfl) (Steps.refl _) (argsL := []) (rest := []) (lenOf pd_0 rfl) rfl (by show 2 * 0 + _ ≤ _; exact Nat.le_of_eq rfl) (hb hby d77_4) (fun _ _ => ⟨rfl, e1, (by decide : 0 + 0 ≤ _), (by decide : 0 + 0 ≤ _)⟩)
  dsimp only [Pt.U, Pt.locs, Pt.cells, Pt.slots] at X2 l2 y2 z2 st2 hQ2
  subst l2 y2 z2
  obtain ⟨rfl, N2q, K2, O2q, vs2, mc2, HL2⟩ := hQ2
  have N2 := Fr.app N0 N2q
  have Z0_v2 : n0 ≤ T2.heap.size := Nat.le_trans Z0 K2.1
  have EO_v2 : Exa Z T2.heap ob "com/example/cotab/cotab/ChunkedBytes" := EO.keep K2
  have FC_v2 : Fld Z T2.heap ob "com/example/cotab/cotab/ChunkedBytes" "chunks" "Ljava/util/List;" (.ref li) := FC.keep K2 (ninS (Ne.symm ne_li_ob) (ninS ne_ob_ed nin0))
  have FB_v2 : Fld Z T2.heap ob "com/example/cotab/cotab/ChunkedBytes" "chunkBytes" "I" (.int (Int32.ofNat cb)) := FB.keep K2 (ninS (Ne.symm ne_li_ob) (ninS ne_ob_ed nin0))
  have FZ_v2 : Fld Z T2.heap ob "com/example/cotab/cotab/ChunkedBytes" "size" "I" (.int (Int32.ofNat sz)) := FZ.keep K2 (ninS (Ne.symm ne_li_ob) (ninS ne_ob_ed nin0))
  have EL_v2 : Exa Z T2.heap li "java/util/ArrayList" := EL.keep K2
  have VDA_v2 : Arv Z T2.heap da kda .byte (16 : Int32) bsd (.int (0 : Int32)) := VDA.keep K2 (ninS (Ne.symm ne_li_da) (ninS (Ne.symm ne_ed_da) nin0))
  refine Gl.tr st2 ?_
  show Gl p e below P (T2.setTop (mkF m 9 #[.val (.ref ob)] []))
  obtain ⟨ELr, FDr, FSr, FMr, EEr, VEr, LEr, hvlr, hncr, hcpr⟩ := id HL2
  have nler : li ≠ ed := ELr.neArv VEr (hw _ (List.mem_of_getElem? (i := 16) rfl))
  have ne_li_obr : li ≠ ob := ne_exa ELr EO_v2 (by decide)
  have ne_ob_edr : ob ≠ ed := EO_v2.neArv VEr (hw _ (List.mem_of_getElem? (i := 2) rfl))
  have ne_li_dar : li ≠ da := ELr.neArv VDA_v2 (hw _ (List.mem_of_getElem? (i := 16) rfl))
  have ne_ob_dar : ob ≠ da := EO_v2.neArv VDA_v2 (hw _ (List.mem_of_getElem? (i := 2) rfl))
  have ne_ed_dar : ed ≠ da := own_arv_ne VEr VDA_v2 (by decide)
  refine Gl.st (fun _ k => XS.aloadN X2.here hx rfl (hb hby d77_9) rfl rfl k) ?_
  show Gl p e below P (T2.setTop (mkF m 10 #[.val (.ref ob)] [(.ref ob)]))
  refine Gl.st (fun _ k => XS.iconst X2.here hx rfl (hb hby d77_10) k) ?_
  show Gl p e below P (T2.setTop (mkF m 11 #[.val (.ref ob)] [(.int (0 : Int32)), (.ref ob)]))
  obtain ⟨T3, h3, X3, e3, W3, st3⟩ := putF X2 hx hZ hown (host := "") (Or.inl (hw _ (List.mem_of_getElem? (i := 63) rfl))) Via.refl rfl FZ_v2 EO_v2 (Or.inl (hw _ (List.mem_of_getElem? (i := 64) rfl))) (hw _ (List.mem_of_getElem? (i := 2) rfl)) (ty := .int) (by decide) rfl rfl (g := (mkF m 11 #[.val (.ref ob)] [(.int (0 : Int32)), (.ref ob)])) rfl rfl (hb hby d77_11)
  refine Gl.st st3 ?_
  have Z0_v3 : n0 ≤ h3.size := Nat.le_trans Z0_v2 (Keep.of_wr W3).1
  have EO_v3 : Exa Z h3 ob "com/example/cotab/cotab/ChunkedBytes" := EO_v2.wr W3
  have FC_v3 : Fld Z h3 ob "com/example/cotab/cotab/ChunkedBytes" "chunks" "Ljava/util/List;" (.ref li) := FC_v2.other W3 (Or.inr (slot_ne (Or.inr (hw _ (List.mem_of_getElem? (i := 40) rfl))) (Or.inl (hw _ (List.mem_of_getElem? (i := 64) rfl))) (by decide) (t := (.object "java/util/List")) (t' := .int) (by decide) (by decide)))
  have FB_v3 : Fld Z h3 ob "com/example/cotab/cotab/ChunkedBytes" "chunkBytes" "I" (.int (Int32.ofNat cb)) := FB_v2.other W3 (Or.inr (slot_ne (Or.inr (hw _ (List.mem_of_getElem? (i := 42) rfl))) (Or.inl (hw _ (List.mem_of_getElem? (i := 64) rfl))) (by decide) (t := .int) (t' := .int) (by decide) (by decide)))
  have ELr_v3 : Exa Z h3 li "java/util/ArrayList" := ELr.wr W3
  have VDA_v3 : Arv Z h3 da kda .byte (16 : Int32) bsd (.int (0 : Int32)) := VDA_v2.other W3 (Ne.symm ne_ob_dar)
  have O2q_v3 : Old Z n0 h3 := O2q.wr W3 go
  have FDr_v3 : Fld Z h3 li "java/util/ArrayList" "elementData" "[Ljava/lang/Object;" (.ref ed) := FDr.other W3 (Or.inl ne_li_obr)
  have FSr_v3 : Fld Z h3 li "java/util/ArrayList" "size" "I" (.int (Int32.ofNat 0)) := FSr.other W3 (Or.inl ne_li_obr)
  have FMr_v3 : Fld Z h3 li "java/util/AbstractList" "modCount" "I" (.int mc2) := FMr.other W3 (Or.inl ne_li_obr)
  have EEr_v3 : Exa Z h3 ed "[Ljava/lang/Object;" := EEr.wr W3
  have VEr_v3 : Arv Z h3 ed ke (.object "java/lang/Object") (Int32.ofNat cap) vs2 .null := VEr.other W3 (Ne.symm ne_ob_edr)
  have LEr_v3 : own_El Z h3 vs2 := own_El_wr W3 LEr
  have Fw3 : Fld Z h3 ob "com/example/cotab/cotab/ChunkedBytes" "size" "I" (.int (0 : Int32)) := FZ_v2.same W3
  have N3 := Fr.snoc X3 N2 go
  show Gl p e below P (T3.setTop (mkF m 14 #[.val (.ref ob)] []))
  obtain ⟨fs, hr, hrun, hended, hW, hsame⟩ := X3.leave (v := none) (fun _ => rfl)
  refine ⟨_, _, X3.returnOut hx Bd.returns (hb hby d77_14) hr, hrun, hended, hPost _ _ ⟨_, _, rfl, ?_, ⟨_, rfl⟩, hW, hsame.mono (by decide) (by decide)⟩⟩
  show Q77 Z ob li ed ke cap n vs mc dc cb sz da kda bsd h0 n0 _ T3.heap _
  rw [e3]
  exact ⟨rfl, N3, O2q_v3, VDA_v3, _, _, ⟨EO_v3, FC_v3, FB_v3, Fw3⟩, ⟨ELr_v3, FDr_v3, FSr_v3, FMr_v3, EEr_v3, VEr_v3, LEr_v3, hvlr, hncr, hcpr⟩⟩
theorem pn_75 : plainName "com/example/cotab/cotab/ChunkedBytes" = true := by first | (simp [plainName, overriddenIn]; done) | decide +kernel
theorem ef_75 (m : MethodId) (x0 : Addr) (x1 : Addr) (x2 : Int32) (x3 : Int32) : entryFrame m #[(.ref x0), (.ref x1), (.int x2), (.int x3)] 7 = mkF m 0 #[.val (.ref x0), .val (.ref x1), .val (.int x2), .val (.int x3), .unset, .unset, .unset] [] := by first | (simp [entryFrame, mkF, argsToLocals, Value.category]; done) | rfl
def Q75 (Z : State) (ob : Addr) (li : Addr) (ed0 : Addr) (ke0 : ClassId) (cap0 : Nat) (n9 : Nat) (vs0 : List Value) (mc0 : Int32) (dc : Addr) (cb : Nat) (sz : Nat) (rr0 : Nat) (mir : Addr) (len : Nat) (da : Addr) (kda : ClassId) (bsd : List Value) (h0 : Heap) (n0 : Nat) (v : Option Value) (h : Heap) (L : List Loc) : Prop := v = none ∧ Fr n0 L ∧ Old Z n0 h ∧ Arv Z h da kda .byte (16 : Int32) bsd (.int (0 : Int32)) ∧ ∃ ed2 ke2 cap2 n2 vs2 mc2, own_Ob Z h ob li cb (sz + len) ∧ own_Ls Z n0 dc h li ed2 ke2 cap2 n2 vs2 mc2
set_option maxRecDepth 65536 in
set_option maxHeartbeats 40000000 in
theorem rm75 (l : Launch) (Z : State) (a0 : Array Value) (hw : ∀ d ∈ tables_1, d.before a0 Z = true) (ws : List Jvm.Cond) (ob : Addr) (li : Addr) (ed0 : Addr) (ke0 : ClassId) (cap0 : Nat) (n9 : Nat) (vs0 : List Value) (mc0 : Int32) (dc : Addr) (cb : Nat) (sz : Nat) (rr0 : Nat) (mir : Addr) (len : Nat) (da : Addr) (kda : ClassId) (bsd : List Value) (h0 : Heap) (n0 : Nat) (Z0 : n0 ≤ h0.size) (HO : own_Ob Z h0 ob li cb sz) (HL : own_Ls Z n0 dc h0 li ed0 ke0 cap0 n9 vs0 mc0) (hP : n9 * cb = sz + rr0) (hcb1 : 1 ≤ cb) (hcb : cb ≤ 8) (hrr : rr0 < cb) (hlen : len ≤ 15) (hsz : sz + len ≤ 16) (hns : n9 ≤ sz) (hck : own_Ck Z h0 n0 cb da vs0 n9 rr0) (go : n0 ≤ ob) (gi : n0 ≤ li) (O0 : Old Z n0 h0) (SD : Sta Z Z.heap "java/util/ArrayList" "DEFAULTCAPACITY_EMPTY_ELEMENTDATA" "[Ljava/lang/Object;" (.ref dc)) (MI : Mir Z "[Ljava/lang/Object;" mir) (VDA : Arv Z h0 da kda .byte (16 : Int32) bsd (.int (0 : Int32))) :
    MetFree l (⟨"com/example/cotab/cotab/ChunkedBytes", "write", "([BII)V"⟩ : MethodName) (head1 (Jvm.Cond.code (⟨"com/example/cotab/cotab/ChunkedBytes", "write", "([BII)V"⟩ : MethodName) prog_2_method_5_code 7 none :: ws) ({ frames := 8, cells := 30, slots := 88, locals := 172 } : Room)) (fun a U => a = #[(.ref ob), (.ref da), (.int (0 : Int32)), (.int (Int32.ofNat len))] ∧ Z.Warmed39 U.vm ∧ U.heap = h0) (fun _ _ _ _ _ => True) (fun _ U o U' => ∃ v L, o = .returned v ∧ Q75 Z ob li ed0 ke0 cap0 n9 vs0 mc0 dc cb sz rr0 mir len da kda bsd h0 n0 v U'.heap L ∧ FrameEnd U o U' L ({ frames := 8, cells := 30, slots := 88, locals := 172 } : Room).cells ({ frames := 8, cells := 30, slots := 88, locals := 172 } : Room).slots) := by
  refine MetFree.of_bodySF (plainFor_of_name pn_75) hisR ?_
  intro p e s m args below meth c s₁ Bd hml0 hP hK
  obtain ⟨rfl, hZ, hh⟩ := hP
  have hx := Bd.exec
  have hby := Bd.bytes
  have hml : c.maxLocals = 7 := hml0
  have hown : s.vm.findClass "com/example/cotab/cotab/ChunkedBytes" = some m.cls := findClass_of_methodNamed Bd.named
  have hnm := (name_of_methodNamed Bd.named Bd.method).1
  have X0 : Stand p l e ({ frames := 8, cells := 30, slots := 88, locals := 172 } : Room) s m #[(.ref ob), (.ref da), (.int (0 : Int32)), (.int (Int32.ofNat len))] below meth c s₁ [] 0 0 := Stand.of_body Bd
  have e0 : s₁.heap = h0 := by rw [← hh, Bd.state]; rfl
  have N0 := Fr.nil n0
  refine Gl.gen fun P hPost => ?_
  refine Gl.st (fun _ k => castTop (ef_75 m ob da (0 : Int32) (Int32.ofNat len) ) k) ?_
  show Gl p e below P (s₁.setTop (mkF m 0 #[.val (.ref ob), .val (.ref da), .val (.int (0 : Int32)), .val (.int (Int32.ofNat len)), .unset, .unset, .unset] []))
  refine Gl.st (fun _ k => XS.iloadN X0.here hx rfl (hb hby d75_0) rfl k) ?_
  show Gl p e below P (s₁.setTop (mkF m 1 #[.val (.ref ob), .val (.ref da), .val (.int (0 : Int32)), .val (.int (Int32.ofNat len)), .unset, .unset, .unset] [(.int (0 : Int32))]))
  refine Gl.st (fun _ k => XS.istore X0.here hx rfl (hb hby d75_1) rfl (l' := #[.val (.ref ob), .val (.ref da), .val (.int (0 : Int32)), .val (.int (Int32.ofNat len)), .val (.int (0 : Int32)), .unset, .unset]) rfl k) ?_
  show Gl p e below P (s₁.setTop (mkF m 3 #[.val (.ref ob), .val (.ref da), .val (.int (0 : Int32)), .val (.int (Int32.ofNat len)), .val (.int (0 : Int32)), .unset, .unset] []))
  have LPw : ∀ k : Nat, ∀ i : Nat, ∀ ed : Addr, ∀ ke : ClassId, ∀ cap : Nat, ∀ n : Nat, ∀ vs : List Value, ∀ mc : Int32, ∀ rr : Nat, ∀ ci : Nat, ∀ si : Nat, ∀ s5 : Slot, ∀ s6 : Slot, ∀ (T1 : State) (locs1 : List Loc) (h1 : Heap), Stand p l e ({ frames := 8, cells := 30, slots := 88, locals := 172 } : Room) s m #[(.ref ob), (.ref da), (.int (0 : Int32)), (.int (Int32.ofNat len))] below meth c T1 locs1 ci si → T1.heap = h1 → Fr n0 locs1 → n0 ≤ h1.size → Old Z n0 h1 → Arv Z h1 da kda .byte (16 : Int32) bsd (.int (0 : Int32)) → One s5 → One s6 → own_Ob Z h1 ob li cb (sz + i) → own_Ls Z n0 dc h1 li ed ke cap n vs mc → n * cb = (sz + i) + rr → rr < cb → i ≤ len → len - i ≤ k → n ≤ sz + i → ci ≤ 2 * i → si ≤ i + rr + 22 * own_ix cap → own_Ck Z h1 n0 cb da vs n rr → Gl p e below P (T1.setTop (mkF m 3 #[.val (.ref ob), .val (.ref da), .val (.int (0 : Int32)), .val (.int (Int32.ofNat len)), .val (.int (Int32.ofNat i)), s5, s6] [])) := by
    intro k
    induction k with
    | zero =>
      intro i ed ke cap n vs mc rr ci si s5 s6 T1 locs1 h1 X1 e1 N1 J1_Z J1_O J1_V_da o5 o6 HOk HLk hPk hrk hik hkk hnk hci hsi hckk
      show Gl p e below P (T1.setTop (mkF m 3 #[.val (.ref ob), .val (.ref da), .val (.int (0 : Int32)), .val (.int (Int32.ofNat len)), .val (.int (Int32.ofNat i)), s5, s6] []))
      obtain ⟨EOk, FCk, FBk, FZk⟩ := id HOk
      obtain ⟨ELk, FDk, FSk, FMk, EEk, VEk, LEk, hvlk, hnck, hcpk⟩ := id HLk
      have nlek : li ≠ ed := ELk.neArv VEk (hw _ (List.mem_of_getElem? (i := 16) rfl))
      have ne_li_obk : li ≠ ob := ne_exa ELk EOk (by decide)
      have ne_ob_edk : ob ≠ ed := EOk.neArv VEk (hw _ (List.mem_of_getElem? (i := 2) rfl))
      have ne_li_dak : li ≠ da := ELk.neArv J1_V_da (hw _ (List.mem_of_getElem? (i := 16) rfl))
      have ne_ob_dak : ob ≠ da := EOk.neArv J1_V_da (hw _ (List.mem_of_getElem? (i := 2) rfl))
      have ne_ed_dak : ed ≠ da := own_arv_ne VEk J1_V_da (by decide)
      have hc22 : cap ≤ 22 := by rcases hcpk with ⟨q, -⟩ | ⟨q | q | q, -⟩ <;> omega
      have hix3 := own_ix_le cap
      refine Gl.st (fun _ k => XS.iload X1.here hx rfl (hb hby d75_3) rfl k) ?_
      show Gl p e below P (T1.setTop (mkF m 5 #[.val (.ref ob), .val (.ref da), .val (.int (0 : Int32)), .val (.int (Int32.ofNat len)), .val (.int (Int32.ofNat i)), s5, s6] [(.int (Int32.ofNat i))]))
      refine Gl.st (fun _ k => XS.iloadN X1.here hx rfl (hb hby d75_5) rfl k) ?_
      show Gl p e below P (T1.setTop (mkF m 6 #[.val (.ref ob), .val (.ref da), .val (.int (0 : Int32)), .val (.int (Int32.ofNat len)), .val (.int (Int32.ofNat i)), s5, s6] [(.int (0 : Int32)), (.int (Int32.ofNat i))]))
      refine Gl.st (fun _ k => XS.iloadN X1.here hx rfl (hb hby d75_6) rfl k) ?_
      show Gl p e below P (T1.setTop (mkF m 7 #[.val (.ref ob), .val (.ref da), .val (.int (0 : Int32)), .val (.int (Int32.ofNat len)), .val (.int (Int32.ofNat i)), s5, s6] [(.int (Int32.ofNat len)), (.int (0 : Int32)), (.int (Int32.ofNat i))]))
      refine Gl.st (fun _ k => XS.iadd X1.here hx rfl (hb hby d75_7) rfl k) ?_
      show Gl p e below P (T1.setTop (mkF m 8 #[.val (.ref ob), .val (.ref da), .val (.int (0 : Int32)), .val (.int (Int32.ofNat len)), .val (.int (Int32.ofNat i)), s5, s6] [(.int ((0 : Int32) + (Int32.ofNat len))), (.int (Int32.ofNat i))]))
      rw [show ((0 : Int32) + (Int32.ofNat len)) = (Int32.ofNat len) from own_z _]
      show Gl p e below P (T1.setTop (mkF m 8 #[.val (.ref ob), .val (.ref da), .val (.int (0 : Int32)), .val (.int (Int32.ofNat len)), .val (.int (Int32.ofNat i)), s5, s6] [(.int (Int32.ofNat len)), (.int (Int32.ofNat i))]))
      refine Gl.st (fun _ k => XS.icmpYes X1.here hx rfl (pc0 := 8) (pc' := 86) rfl (hb hby d75_8) rfl (flt (fun q => absurd ((own_lt i len (by omega) (by omega)).mp q) (by omega) : ¬ ((Int32.ofNat i) < (Int32.ofNat len)))).2.1 (by decide) (by decide) k) ?_
      show Gl p e below P (T1.setTop (mkF m 86 #[.val (.ref ob), .val (.ref da), .val (.int (0 : Int32)), .val (.int (Int32.ofNat len)), .val (.int (Int32.ofNat i)), s5, s6] []))
      have hil : i = len := by omega
      obtain ⟨fs, hr, hrun, hended, hW, hsame⟩ := X1.leave (v := none) (fun _ => rfl)
      refine ⟨_, _, X1.returnOut hx Bd.returns (hb hby d75_86) hr, hrun, hended, hPost _ _ ⟨_, _, rfl, ?_, ⟨_, rfl⟩, hW, hsame.mono (show ci ≤ 30 by omega) (show si ≤ 88 by omega)⟩⟩
      show Q75 Z ob li ed0 ke0 cap0 n9 vs0 mc0 dc cb sz rr0 mir len da kda bsd h0 n0 _ T1.heap _
      rw [e1]
      exact (by rw [← hil]; exact ⟨rfl, N1, J1_O, J1_V_da, _, _, _, _, _, _, ⟨EOk, FCk, FBk, FZk⟩, ⟨ELk, FDk, FSk, FMk, EEk, VEk, LEk, hvlk, hnck, hcpk⟩⟩)
    | succ k ih =>
      intro i ed ke cap n vs mc rr ci si s5 s6 T1 locs1 h1 X1 e1 N1 J1_Z J1_O J1_V_da o5 o6 HOk HLk hPk hrk hik hkk hnk hci hsi hckk
      show Gl p e below P (T1.setTop (mkF m 3 #[.val (.ref ob), .val (.ref da), .val (.int (0 : Int32)), .val (.int (Int32.ofNat len)), .val (.int (Int32.ofNat i)), s5, s6] []))
      obtain ⟨EOk, FCk, FBk, FZk⟩ := id HOk
      obtain ⟨ELk, FDk, FSk, FMk, EEk, VEk, LEk, hvlk, hnck, hcpk⟩ := id HLk
      have nlek : li ≠ ed := ELk.neArv VEk (hw _ (List.mem_of_getElem? (i := 16) rfl))
      have ne_li_obk : li ≠ ob := ne_exa ELk EOk (by decide)
      have ne_ob_edk : ob ≠ ed := EOk.neArv VEk (hw _ (List.mem_of_getElem? (i := 2) rfl))
      have ne_li_dak : li ≠ da := ELk.neArv J1_V_da (hw _ (List.mem_of_getElem? (i := 16) rfl))
      have ne_ob_dak : ob ≠ da := EOk.neArv J1_V_da (hw _ (List.mem_of_getElem? (i := 2) rfl))
      have ne_ed_dak : ed ≠ da := own_arv_ne VEk J1_V_da (by decide)
      have hc22 : cap ≤ 22 := by rcases hcpk with ⟨q, -⟩ | ⟨q | q | q, -⟩ <;> omega
      have hix3 := own_ix_le cap
      refine Gl.st (fun _ k => XS.iload X1.here hx rfl (hb hby d75_3) rfl k) ?_
      show Gl p e below P (T1.setTop (mkF m 5 #[.val (.ref ob), .val (.ref da), .val (.int (0 : Int32)), .val (.int (Int32.ofNat len)), .val (.int (Int32.ofNat i)), s5, s6] [(.int (Int32.ofNat i))]))
      refine Gl.st (fun _ k => XS.iloadN X1.here hx rfl (hb hby d75_5) rfl k) ?_
      show Gl p e below P (T1.setTop (mkF m 6 #[.val (.ref ob), .val (.ref da), .val (.int (0 : Int32)), .val (.int (Int32.ofNat len)), .val (.int (Int32.ofNat i)), s5, s6] [(.int (0 : Int32)), (.int (Int32.ofNat i))]))
      refine Gl.st (fun _ k => XS.iloadN X1.here hx rfl (hb hby d75_6) rfl k) ?_
      show Gl p e below P (T1.setTop (mkF m 7 #[.val (.ref ob), .val (.ref da), .val (.int (0 : Int32)), .val (.int (Int32.ofNat len)), .val (.int (Int32.ofNat i)), s5, s6] [(.int (Int32.ofNat len)), (.int (0 : Int32)), (.int (Int32.ofNat i))]))
      refine Gl.st (fun _ k => XS.iadd X1.here hx rfl (hb hby d75_7) rfl k) ?_
      show Gl p e below P (T1.setTop (mkF m 8 #[.val (.ref ob), .val (.ref da), .val (.int (0 : Int32)), .val (.int (Int32.ofNat len)), .val (.int (Int32.ofNat i)), s5, s6] [(.int ((0 : Int32) + (Int32.ofNat len))), (.int (Int32.ofNat i))]))
      rw [show ((0 : Int32) + (Int32.ofNat len)) = (Int32.ofNat len) from own_z _]
      show Gl p e below P (T1.setTop (mkF m 8 #[.val (.ref ob), .val (.ref da), .val (.int (0 : Int32)), .val (.int (Int32.ofNat len)), .val (.int (Int32.ofNat i)), s5, s6] [(.int (Int32.ofNat len)), (.int (Int32.ofNat i))]))
      by_cases hc : i < len
      · refine Gl.st (fun _ k => XS.icmpNo X1.here hx rfl (hb hby d75_8) rfl (tlt ((own_lt i len (by omega) (by omega)).mpr hc : (Int32.ofNat i) < (Int32.ofNat len))).2.1 k) ?_
        show Gl p e below P (T1.setTop (mkF m 11 #[.val (.ref ob), .val (.ref da), .val (.int (0 : Int32)), .val (.int (Int32.ofNat len)), .val (.int (Int32.ofNat i)), s5, s6] []))
        refine Gl.st (fun _ k => XS.aloadN X1.here hx rfl (hb hby d75_11) rfl rfl k) ?_
        show Gl p e below P (T1.setTop (mkF m 12 #[.val (.ref ob), .val (.ref da), .val (.int (0 : Int32)), .val (.int (Int32.ofNat len)), .val (.int (Int32.ofNat i)), s5, s6] [(.ref ob)]))
        rcases hckk with hr0 | ⟨ck, kk, bs, gdk, VCk, hbs, nckd, g_ck⟩
        · obtain ⟨gr, hgr⟩ : ∃ gr, ((n < cap ∧ gr = 0) ∨ (n = cap ∧ n ≤ 16 ∧ gr = 22)) := by by_cases q : n < cap; exact ⟨0, Or.inl ⟨q, rfl⟩⟩; exact ⟨22, Or.inr ⟨by omega, by omega, rfl⟩⟩
          have hix := own_ix_gr (by rcases hcpk with ⟨q, -⟩ | ⟨q, -⟩ <;> omega) hgr
          obtain ⟨cq2, q2, q2'⟩ := EOk.cell
          obtain ⟨_, _, ⟨T2, L2, k2, n2⟩, -, X2, ⟨Lc2, hQ2, l2, y2, z2⟩, st2⟩ := X1.privateBack hx (y := (⟨"com/example/cotab/cotab/ChunkedBytes", "room", "()I"⟩ : MethodName)) hown (mvT hZ (hw _ (List.mem_of_getElem? (i := 48) rfl))) (mvT hZ (hw _ (List.mem_of_getElem? (i := 49) rfl))) (mvT hZ (own_sel (y := (⟨"com/example/cotab/cotab/ChunkedBytes", "room", "()I"⟩ : MethodName)) (hw _ (List.mem_of_getElem? (i := 2) rfl)) (hw _ (List.mem_of_getElem? (i := 50) rfl)) (hw _ (List.mem_of_getElem? (i := 49) rfl)) (by decide))) (Cond.privateMethod_at (mvP hZ (hw _ (List.mem_of_getElem? (i := 50) rfl)) (args := #[]))) (mvT hZ (hw _ (List.mem_of_getElem? (i := 51) rfl))) (by decide) (backOf (W := 0) (rm73 l Z a0 hw [] ob li ed ke cap n vs mc dc cb (sz + i) mir gr h1 n0 J1_Z ⟨EOk, FCk, FBk, FZk⟩ ⟨ELk, FDk, FSk, FMk, EEk, VEk, LEk, hvlk, hnck, hcpk⟩ (by rw [hPk, hr0]) hcb hgr gi J1_O SD MI) hZ (hw _ (List.mem_of_getElem? (i := 51) rfl)) (hw _ (List.mem_of_getElem? (i := 3) rfl)) (Nat.le_of_ble_eq_true rfl) (Nat.le_of_ble_eq_true rfl)) (g := (mkF m 12 #[.val (.ref ob), .val (.ref da), .val (.int (0 : Int32)), .val (.int (Int32.ofNat len)), .val (.int (Int32.ofNat i)), s5, s6] [(.ref ob)])) rfl (by rw [hml]; rfl) (Steps.refl _) (a := ob) (by rw [e1]; exact q2) q2' (argsL := []) (rest := []) (lenOf pd_10 rfl) rfl (by show 2 * 0 + _ ≤ _; exact Nat.le_of_eq rfl) (hb hby d75_12) (fun _ _ => ⟨rfl, e1, (show ci + 2 ≤ 30 by omega), (show si + (cb + gr) ≤ 88 by omega)⟩)
          dsimp only [Pt.U, Pt.locs, Pt.cells, Pt.slots] at X2 l2 y2 z2 st2 hQ2
          subst l2 y2 z2
          obtain ⟨rfl, ed2, ke2, cap2, vs2, mc2, ck, kk, N2q, K2, O2q, HL2, gd2, nx2, EC2, VC2, gc2⟩ := hQ2
          have ne_da_ck : da ≠ ck := Nat.ne_of_lt (Nat.lt_of_lt_of_le J1_V_da.lt gc2)
          have g_ck : n0 ≤ ck := Nat.le_trans J1_Z gc2
          have N2 := Fr.app N1 N2q
          have J1_Z_v2 : n0 ≤ T2.heap.size := Nat.le_trans J1_Z K2.1
          have J1_V_da_v2 : Arv Z T2.heap da kda .byte (16 : Int32) bsd (.int (0 : Int32)) := J1_V_da.keep K2 (ninS (Ne.symm ne_li_dak) (ninS (Ne.symm ne_ed_dak) nin0))
          have EOk_v2 : Exa Z T2.heap ob "com/example/cotab/cotab/ChunkedBytes" := EOk.keep K2
          have FCk_v2 : Fld Z T2.heap ob "com/example/cotab/cotab/ChunkedBytes" "chunks" "Ljava/util/List;" (.ref li) := FCk.keep K2 (ninS (Ne.symm ne_li_obk) (ninS ne_ob_edk nin0))
          have FBk_v2 : Fld Z T2.heap ob "com/example/cotab/cotab/ChunkedBytes" "chunkBytes" "I" (.int (Int32.ofNat cb)) := FBk.keep K2 (ninS (Ne.symm ne_li_obk) (ninS ne_ob_edk nin0))
          have FZk_v2 : Fld Z T2.heap ob "com/example/cotab/cotab/ChunkedBytes" "size" "I" (.int (Int32.ofNat (sz + i))) := FZk.keep K2 (ninS (Ne.symm ne_li_obk) (ninS ne_ob_edk nin0))
          have ELk_v2 : Exa Z T2.heap li "java/util/ArrayList" := ELk.keep K2
          refine Gl.tr st2 ?_
          show Gl p e below P (T2.setTop (mkF m 15 #[.val (.ref ob), .val (.ref da), .val (.int (0 : Int32)), .val (.int (Int32.ofNat len)), .val (.int (Int32.ofNat i)), s5, s6] [(.int (Int32.ofNat cb))]))
          obtain ⟨ELr, FDr, FSr, FMr, EEr, VEr, LEr, hvlr, hncr, hcpr⟩ := id HL2
          have nler : li ≠ ed2 := ELr.neArv VEr (hw _ (List.mem_of_getElem? (i := 16) rfl))
          have ne_li_obr : li ≠ ob := ne_exa ELr EOk_v2 (by decide)
          have ne_ob_ed2r : ob ≠ ed2 := EOk_v2.neArv VEr (hw _ (List.mem_of_getElem? (i := 2) rfl))
          have ne_li_dar : li ≠ da := ELr.neArv J1_V_da_v2 (hw _ (List.mem_of_getElem? (i := 16) rfl))
          have ne_ob_dar : ob ≠ da := EOk_v2.neArv J1_V_da_v2 (hw _ (List.mem_of_getElem? (i := 2) rfl))
          have ne_ed2_dar : ed2 ≠ da := own_arv_ne VEr J1_V_da_v2 (by decide)
          have ne_li_ckr : li ≠ ck := ELr.neArv VC2 (hw _ (List.mem_of_getElem? (i := 16) rfl))
          have ne_ob_ckr : ob ≠ ck := EOk_v2.neArv VC2 (hw _ (List.mem_of_getElem? (i := 2) rfl))
          have ne_ed2_ckr : ed2 ≠ ck := own_arv_ne VEr VC2 (by decide)
          have hc22r : cap2 ≤ 22 := by rcases hcpr with ⟨q, -⟩ | ⟨q | q | q, -⟩ <;> omega
          have hixr := own_ix_nx nx2
          have hbs : (List.replicate cb (Value.int (0 : Int32))).length = cb := List.length_replicate ..
          have hPr : (n + 1) * cb = sz + (i + 0) + cb := by rw [Nat.succ_mul, hPk, hr0]; omega
          have hra : 1 ≤ cb ∧ cb ≤ cb := by omega
          refine Gl.st (fun _ k => XS.istore X2.here hx rfl (hb hby d75_15) rfl (l' := #[.val (.ref ob), .val (.ref da), .val (.int (0 : Int32)), .val (.int (Int32.ofNat len)), .val (.int (Int32.ofNat i)), .val (.int (Int32.ofNat cb)), s6]) (XS.store1 (i := 5) (v := (.int (Int32.ofNat cb))) rfl o5 rfl) k) ?_
          show Gl p e below P (T2.setTop (mkF m 17 #[.val (.ref ob), .val (.ref da), .val (.int (0 : Int32)), .val (.int (Int32.ofNat len)), .val (.int (Int32.ofNat i)), .val (.int (Int32.ofNat cb)), s6] []))
          refine Gl.st (fun _ k => XS.iload X2.here hx rfl (hb hby d75_17) rfl k) ?_
          show Gl p e below P (T2.setTop (mkF m 19 #[.val (.ref ob), .val (.ref da), .val (.int (0 : Int32)), .val (.int (Int32.ofNat len)), .val (.int (Int32.ofNat i)), .val (.int (Int32.ofNat cb)), s6] [(.int (Int32.ofNat cb))]))
          refine Gl.st (fun _ k => XS.iloadN X2.here hx rfl (hb hby d75_19) rfl k) ?_
          show Gl p e below P (T2.setTop (mkF m 20 #[.val (.ref ob), .val (.ref da), .val (.int (0 : Int32)), .val (.int (Int32.ofNat len)), .val (.int (Int32.ofNat i)), .val (.int (Int32.ofNat cb)), s6] [(.int (0 : Int32)), (.int (Int32.ofNat cb))]))
          refine Gl.st (fun _ k => XS.iloadN X2.here hx rfl (hb hby d75_20) rfl k) ?_
          show Gl p e below P (T2.setTop (mkF m 21 #[.val (.ref ob), .val (.ref da), .val (.int (0 : Int32)), .val (.int (Int32.ofNat len)), .val (.int (Int32.ofNat i)), .val (.int (Int32.ofNat cb)), s6] [(.int (Int32.ofNat len)), (.int (0 : Int32)), (.int (Int32.ofNat cb))]))
          refine Gl.st (fun _ k => XS.iadd X2.here hx rfl (hb hby d75_21) rfl k) ?_
          show Gl p e below P (T2.setTop (mkF m 22 #[.val (.ref ob), .val (.ref da), .val (.int (0 : Int32)), .val (.int (Int32.ofNat len)), .val (.int (Int32.ofNat i)), .val (.int (Int32.ofNat cb)), s6] [(.int ((0 : Int32) + (Int32.ofNat len))), (.int (Int32.ofNat cb))]))
          rw [show ((0 : Int32) + (Int32.ofNat len)) = (Int32.ofNat len) from own_z _]
          show Gl p e below P (T2.setTop (mkF m 22 #[.val (.ref ob), .val (.ref da), .val (.int (0 : Int32)), .val (.int (Int32.ofNat len)), .val (.int (Int32.ofNat i)), .val (.int (Int32.ofNat cb)), s6] [(.int (Int32.ofNat len)), (.int (Int32.ofNat cb))]))
          refine Gl.st (fun _ k => XS.iload X2.here hx rfl (hb hby d75_22) rfl k) ?_
          show Gl p e below P (T2.setTop (mkF m 24 #[.val (.ref ob), .val (.ref da), .val (.int (0 : Int32)), .val (.int (Int32.ofNat len)), .val (.int (Int32.ofNat i)), .val (.int (Int32.ofNat cb)), s6] [(.int (Int32.ofNat i)), (.int (Int32.ofNat len)), (.int (Int32.ofNat cb))]))
          refine Gl.st (fun _ k => XS.isub X2.here hx rfl (hb hby d75_24) rfl k) ?_
          show Gl p e below P (T2.setTop (mkF m 25 #[.val (.ref ob), .val (.ref da), .val (.int (0 : Int32)), .val (.int (Int32.ofNat len)), .val (.int (Int32.ofNat i)), .val (.int (Int32.ofNat cb)), s6] [(.int ((Int32.ofNat len) - (Int32.ofNat i))), (.int (Int32.ofNat cb))]))
          rw [show ((Int32.ofNat len) - (Int32.ofNat i)) = (Int32.ofNat (len - i)) from own_sub len i (len - i) (by omega)]
          show Gl p e below P (T2.setTop (mkF m 25 #[.val (.ref ob), .val (.ref da), .val (.int (0 : Int32)), .val (.int (Int32.ofNat len)), .val (.int (Int32.ofNat i)), .val (.int (Int32.ofNat cb)), s6] [(.int (Int32.ofNat (len - i))), (.int (Int32.ofNat cb))]))
          obtain ⟨mm, hm1, hm2, hm3, hmz⟩ := own_min cb (len - i) (by omega) (by omega) (by omega) (by omega)
          obtain ⟨_, _, ⟨T3, L3, k3, n3⟩, -, X3, ⟨Lc3, hQ3, l3, y3, z3⟩, st3⟩ := Jvm.LawKit.callS X2 hx (y := (⟨"java/lang/Math", "min", "(II)I"⟩ : MethodName)) hown (mvT hZ (hw _ (List.mem_of_getElem? (i := 97) rfl))) (mvT hZ (hw _ (List.mem_of_getElem? (i := 98) rfl))) (mvT hZ (hw _ (List.mem_of_getElem? (i := 92) rfl))) (mvT hZ (hw _ (List.mem_of_getElem? (i := 99) rfl))) (by decide) (backOf (W := 0) (rm51 l Z a0 hw [] (Int32.ofNat cb) (Int32.ofNat (len - i)) (Int32.ofNat mm) T2.heap n0 J1_Z_v2 hmz) hZ (hw _ (List.mem_of_getElem? (i := 99) rfl)) (hw _ (List.mem_of_getElem? (i := 92) rfl)) (by decide) (by decide)) (g := (mkF m 25 #[.val (.ref ob), .val (.ref da), .val (.int (0 : Int32)), .val (.int (Int32.ofNat len)), .val (.int (Int32.ofNat i)), .val (.int (Int32.ofNat cb)), s6] [(.int (Int32.ofNat (len - i))), (.int (Int32.ofNat cb))])) rfl (by rw [hml]; rfl) (argsL := [(.int (Int32.ofNat cb)), (.int (Int32.ofNat (len - i)))]) (rest := []) (lenOf pd_2 rfl) rfl (by show 2 * 0 + _ ≤ _; exact Nat.le_of_eq rfl) (hb hby d75_25) (fun _ _ => ⟨rfl, rfl, (show (ci + 2) + 0 ≤ 30 by omega), (show (si + (cb + gr)) + 0 ≤ 88 by omega)⟩)
          dsimp only [Pt.U, Pt.locs, Pt.cells, Pt.slots] at X3 l3 y3 z3 st3 hQ3
          subst l3 y3 z3
          obtain ⟨rfl, N3q, e3⟩ := hQ3
          have N3 := Fr.app N2 N3q
          refine Gl.st st3 ?_
          show Gl p e below P (T3.setTop (mkF m 28 #[.val (.ref ob), .val (.ref da), .val (.int (0 : Int32)), .val (.int (Int32.ofNat len)), .val (.int (Int32.ofNat i)), .val (.int (Int32.ofNat cb)), s6] [(.int (Int32.ofNat mm))]))
          refine Gl.st (fun _ k => XS.istore X3.here hx rfl (hb hby d75_28) rfl (l' := #[.val (.ref ob), .val (.ref da), .val (.int (0 : Int32)), .val (.int (Int32.ofNat len)), .val (.int (Int32.ofNat i)), .val (.int (Int32.ofNat cb)), .val (.int (Int32.ofNat mm))]) (XS.store1 (i := 6) (v := (.int (Int32.ofNat mm))) rfl o6 rfl) k) ?_
          show Gl p e below P (T3.setTop (mkF m 30 #[.val (.ref ob), .val (.ref da), .val (.int (0 : Int32)), .val (.int (Int32.ofNat len)), .val (.int (Int32.ofNat i)), .val (.int (Int32.ofNat cb)), .val (.int (Int32.ofNat mm))] []))
          refine Gl.st (fun _ k => XS.aloadN X3.here hx rfl (hb hby d75_30) rfl rfl k) ?_
          show Gl p e below P (T3.setTop (mkF m 31 #[.val (.ref ob), .val (.ref da), .val (.int (0 : Int32)), .val (.int (Int32.ofNat len)), .val (.int (Int32.ofNat i)), .val (.int (Int32.ofNat cb)), .val (.int (Int32.ofNat mm))] [(.ref da)]))
          refine Gl.st (fun _ k => XS.iload X3.here hx rfl (hb hby d75_31) rfl k) ?_
          show Gl p e below P (T3.setTop (mkF m 33 #[.val (.ref ob), .val (.ref da), .val (.int (0 : Int32)), .val (.int (Int32.ofNat len)), .val (.int (Int32.ofNat i)), .val (.int (Int32.ofNat cb)), .val (.int (Int32.ofNat mm))] [(.int (Int32.ofNat i)), (.ref da)]))
          refine Gl.st (fun _ k => XS.aloadN X3.here hx rfl (hb hby d75_33) rfl rfl k) ?_
          show Gl p e below P (T3.setTop (mkF m 34 #[.val (.ref ob), .val (.ref da), .val (.int (0 : Int32)), .val (.int (Int32.ofNat len)), .val (.int (Int32.ofNat i)), .val (.int (Int32.ofNat cb)), .val (.int (Int32.ofNat mm))] [(.ref ob), (.int (Int32.ofNat i)), (.ref da)]))
          obtain ⟨T4, X4, e4, st4⟩ := getF X3 hx hZ hown (host := "") (Or.inl (hw _ (List.mem_of_getElem? (i := 39) rfl))) Via.refl e3 FCk_v2 (g := (mkF m 34 #[.val (.ref ob), .val (.ref da), .val (.int (0 : Int32)), .val (.int (Int32.ofNat len)), .val (.int (Int32.ofNat i)), .val (.int (Int32.ofNat cb)), .val (.int (Int32.ofNat mm))] [(.ref ob), (.int (Int32.ofNat i)), (.ref da)])) rfl rfl (hb hby d75_34)
          refine Gl.st st4 ?_
          show Gl p e below P (T4.setTop (mkF m 37 #[.val (.ref ob), .val (.ref da), .val (.int (0 : Int32)), .val (.int (Int32.ofNat len)), .val (.int (Int32.ofNat i)), .val (.int (Int32.ofNat cb)), .val (.int (Int32.ofNat mm))] [(.ref li), (.int (Int32.ofNat i)), (.ref da)]))
          refine Gl.st (fun _ k => XS.aloadN X4.here hx rfl (hb hby d75_37) rfl rfl k) ?_
          show Gl p e below P (T4.setTop (mkF m 38 #[.val (.ref ob), .val (.ref da), .val (.int (0 : Int32)), .val (.int (Int32.ofNat len)), .val (.int (Int32.ofNat i)), .val (.int (Int32.ofNat cb)), .val (.int (Int32.ofNat mm))] [(.ref ob), (.ref li), (.int (Int32.ofNat i)), (.ref da)]))
          obtain ⟨T5, X5, e5, st5⟩ := getF X4 hx hZ hown (host := "") (Or.inl (hw _ (List.mem_of_getElem? (i := 39) rfl))) Via.refl e4 FCk_v2 (g := (mkF m 38 #[.val (.ref ob), .val (.ref da), .val (.int (0 : Int32)), .val (.int (Int32.ofNat len)), .val (.int (Int32.ofNat i)), .val (.int (Int32.ofNat cb)), .val (.int (Int32.ofNat mm))] [(.ref ob), (.ref li), (.int (Int32.ofNat i)), (.ref da)])) rfl rfl (hb hby d75_38)
          refine Gl.st st5 ?_
          show Gl p e below P (T5.setTop (mkF m 41 #[.val (.ref ob), .val (.ref da), .val (.int (0 : Int32)), .val (.int (Int32.ofNat len)), .val (.int (Int32.ofNat i)), .val (.int (Int32.ofNat cb)), .val (.int (Int32.ofNat mm))] [(.ref li), (.ref li), (.int (Int32.ofNat i)), (.ref da)]))
          obtain ⟨cq6, kq6, q6a, q6b, q6c⟩ := isOf hZ e5 ELr
          obtain ⟨_, _, ⟨T6, L6, k6, n6⟩, -, X6, ⟨Lc6, hQ6, l6, y6, z6⟩, st6⟩ := X5.interfaceBack hx (xi := (⟨"java/util/List", "size", "()I"⟩ : MethodName)) (y := (⟨"java/util/ArrayList", "size", "()I"⟩ : MethodName)) hown (mvT hZ (hw _ (List.mem_of_getElem? (i := 52) rfl))) (mvT hZ (hw _ (List.mem_of_getElem? (i := 53) rfl))) (mvT hZ (hw _ (List.mem_of_getElem? (i := 54) rfl))) (mvT hZ (hw _ (List.mem_of_getElem? (i := 55) rfl))) (mvT hZ (hw _ (List.mem_of_getElem? (i := 56) rfl))) (mvT hZ (hw _ (List.mem_of_getElem? (i := 57) rfl))) (mvT hZ (hw _ (List.mem_of_getElem? (i := 58) rfl))) (mvT hZ (hw _ (List.mem_of_getElem? (i := 59) rfl))) (by decide) (backOf (W := 3) (rm45 l Z a0 hw [] li (Int32.ofNat (n + 1)) T2.heap n0 J1_Z_v2 ELr FSr) hZ (hw _ (List.mem_of_getElem? (i := 60) rfl)) (hw _ (List.mem_of_getElem? (i := 17) rfl)) (by decide) (by decide)) q6a q6b q6c (g := (mkF m 41 #[.val (.ref ob), .val (.ref da), .val (.int (0 : Int32)), .val (.int (Int32.ofNat len)), .val (.int (Int32.ofNat i)), .val (.int (Int32.ofNat cb)), .val (.int (Int32.ofNat mm))] [(.ref li), (.ref li), (.int (Int32.ofNat i)), (.ref da)])) rfl (by rw [hml]; rfl) (Steps.refl _) (argsL := []) (rest := [(.ref li), (.int (Int32.ofNat i)), (.ref da)]) (lenOf pd_10 rfl) rfl (by show 2 * 0 + _ ≤ _; exact Nat.le_of_eq rfl) (hb hby d75_41) (fun _ _ => ⟨rfl, e5, (show ((ci + 2) + 0) + 0 ≤ 30 by omega), (show ((si + (cb + gr)) + 0) + 0 ≤ 88 by omega)⟩)
          dsimp only [Pt.U, Pt.locs, Pt.cells, Pt.slots] at X6 l6 y6 z6 st6 hQ6
          subst l6 y6 z6
          obtain ⟨rfl, N6q, e6⟩ := hQ6
          have N6 := Fr.app N3 N6q
          refine Gl.tr st6 ?_
          show Gl p e below P (T6.setTop (mkF m 46 #[.val (.ref ob), .val (.ref da), .val (.int (0 : Int32)), .val (.int (Int32.ofNat len)), .val (.int (Int32.ofNat i)), .val (.int (Int32.ofNat cb)), .val (.int (Int32.ofNat mm))] [(.int (Int32.ofNat (n + 1))), (.ref li), (.int (Int32.ofNat i)), (.ref da)]))
          refine Gl.st (fun _ k => XS.iconst X6.here hx rfl (hb hby d75_46) k) ?_
          show Gl p e below P (T6.setTop (mkF m 47 #[.val (.ref ob), .val (.ref da), .val (.int (0 : Int32)), .val (.int (Int32.ofNat len)), .val (.int (Int32.ofNat i)), .val (.int (Int32.ofNat cb)), .val (.int (Int32.ofNat mm))] [(.int (1 : Int32)), (.int (Int32.ofNat (n + 1))), (.ref li), (.int (Int32.ofNat i)), (.ref da)]))
          refine Gl.st (fun _ k => XS.isub X6.here hx rfl (hb hby d75_47) rfl k) ?_
          show Gl p e below P (T6.setTop (mkF m 48 #[.val (.ref ob), .val (.ref da), .val (.int (0 : Int32)), .val (.int (Int32.ofNat len)), .val (.int (Int32.ofNat i)), .val (.int (Int32.ofNat cb)), .val (.int (Int32.ofNat mm))] [(.int ((Int32.ofNat (n + 1)) - (1 : Int32))), (.ref li), (.int (Int32.ofNat i)), (.ref da)]))
          rw [show ((Int32.ofNat (n + 1)) - (1 : Int32)) = (Int32.ofNat ((n + 1) - 1)) from own_sub (n + 1) 1 ((n + 1) - 1) (by omega)]
          show Gl p e below P (T6.setTop (mkF m 48 #[.val (.ref ob), .val (.ref da), .val (.int (0 : Int32)), .val (.int (Int32.ofNat len)), .val (.int (Int32.ofNat i)), .val (.int (Int32.ofNat cb)), .val (.int (Int32.ofNat mm))] [(.int (Int32.ofNat ((n + 1) - 1))), (.ref li), (.int (Int32.ofNat i)), (.ref da)]))
          obtain ⟨cq7, kq7, q7a, q7b, q7c⟩ := isOf hZ e6 ELr
          obtain ⟨_, _, ⟨T7, L7, k7, n7⟩, -, X7, ⟨Lc7, hQ7, l7, y7, z7⟩, st7⟩ := X6.interfaceBack hx (xi := (⟨"java/util/List", "get", "(I)Ljava/lang/Object;"⟩ : MethodName)) (y := (⟨"java/util/ArrayList", "get", "(I)Ljava/lang/Object;"⟩ : MethodName)) hown (mvT hZ (hw _ (List.mem_of_getElem? (i := 100) rfl))) (mvT hZ (hw _ (List.mem_of_getElem? (i := 101) rfl))) (mvT hZ (hw _ (List.mem_of_getElem? (i := 102) rfl))) (mvT hZ (hw _ (List.mem_of_getElem? (i := 103) rfl))) (mvT hZ (hw _ (List.mem_of_getElem? (i := 104) rfl))) (mvT hZ (hw _ (List.mem_of_getElem? (i := 105) rfl))) (mvT hZ (hw _ (List.mem_of_getElem? (i := 106) rfl))) (mvT hZ (hw _ (List.mem_of_getElem? (i := 59) rfl))) (by decide) (backOf (W := 2) (rm50 l Z a0 hw [] li ed2 ke2 cap2 (n + 1) vs2 mc2 dc ((n + 1) - 1) ck T2.heap n0 J1_Z_v2 ⟨ELr, FDr, FSr, FMr, EEr, VEr, LEr, hvlr, hncr, hcpr⟩ (by omega) (by omega) gd2) hZ (hw _ (List.mem_of_getElem? (i := 107) rfl)) (hw _ (List.mem_of_getElem? (i := 17) rfl)) (by decide) (by decide)) q7a q7b q7c (g := (mkF m 48 #[.val (.ref ob), .val (.ref da), .val (.int (0 : Int32)), .val (.int (Int32.ofNat len)), .val (.int (Int32.ofNat i)), .val (.int (Int32.ofNat cb)), .val (.int (Int32.ofNat mm))] [(.int (Int32.ofNat ((n + 1) - 1))), (.ref li), (.int (Int32.ofNat i)), (.ref da)])) rfl (by rw [hml]; rfl) (Steps.refl _) (argsL := [(.int (Int32.ofNat ((n + 1) - 1)))]) (rest := [(.int (Int32.ofNat i)), (.ref da)]) (lenOf pd_3 rfl) rfl (by show 2 * 0 + _ ≤ _; exact Nat.le_of_eq rfl) (hb hby d75_48) (fun _ _ => ⟨rfl, e6, (show (((ci + 2) + 0) + 0) + 0 ≤ 30 by omega), (show (((si + (cb + gr)) + 0) + 0) + 0 ≤ 88 by omega)⟩)
          dsimp only [Pt.U, Pt.locs, Pt.cells, Pt.slots] at X7 l7 y7 z7 st7 hQ7
          subst l7 y7 z7
          obtain ⟨rfl, N7q, e7⟩ := hQ7
          have N7 := Fr.app N6 N7q
          refine Gl.tr st7 ?_
          show Gl p e below P (T7.setTop (mkF m 53 #[.val (.ref ob), .val (.ref da), .val (.int (0 : Int32)), .val (.int (Int32.ofNat len)), .val (.int (Int32.ofNat i)), .val (.int (Int32.ofNat cb)), .val (.int (Int32.ofNat mm))] [(.ref ck), (.int (Int32.ofNat i)), (.ref da)]))
          refine Gl.st (fun _ k => XS.aloadN X7.here hx rfl (hb hby d75_53) rfl rfl k) ?_
          show Gl p e below P (T7.setTop (mkF m 54 #[.val (.ref ob), .val (.ref da), .val (.int (0 : Int32)), .val (.int (Int32.ofNat len)), .val (.int (Int32.ofNat i)), .val (.int (Int32.ofNat cb)), .val (.int (Int32.ofNat mm))] [(.ref ob), (.ref ck), (.int (Int32.ofNat i)), (.ref da)]))
          obtain ⟨T8, X8, e8, st8⟩ := getF X7 hx hZ hown (host := "") (Or.inl (hw _ (List.mem_of_getElem? (i := 41) rfl))) Via.refl e7 FBk_v2 (g := (mkF m 54 #[.val (.ref ob), .val (.ref da), .val (.int (0 : Int32)), .val (.int (Int32.ofNat len)), .val (.int (Int32.ofNat i)), .val (.int (Int32.ofNat cb)), .val (.int (Int32.ofNat mm))] [(.ref ob), (.ref ck), (.int (Int32.ofNat i)), (.ref da)])) rfl rfl (hb hby d75_54)
          refine Gl.st st8 ?_
          show Gl p e below P (T8.setTop (mkF m 57 #[.val (.ref ob), .val (.ref da), .val (.int (0 : Int32)), .val (.int (Int32.ofNat len)), .val (.int (Int32.ofNat i)), .val (.int (Int32.ofNat cb)), .val (.int (Int32.ofNat mm))] [(.int (Int32.ofNat cb)), (.ref ck), (.int (Int32.ofNat i)), (.ref da)]))
          refine Gl.st (fun _ k => XS.iload X8.here hx rfl (hb hby d75_57) rfl k) ?_
          show Gl p e below P (T8.setTop (mkF m 59 #[.val (.ref ob), .val (.ref da), .val (.int (0 : Int32)), .val (.int (Int32.ofNat len)), .val (.int (Int32.ofNat i)), .val (.int (Int32.ofNat cb)), .val (.int (Int32.ofNat mm))] [(.int (Int32.ofNat cb)), (.int (Int32.ofNat cb)), (.ref ck), (.int (Int32.ofNat i)), (.ref da)]))
          refine Gl.st (fun _ k => XS.isub X8.here hx rfl (hb hby d75_59) rfl k) ?_
          show Gl p e below P (T8.setTop (mkF m 60 #[.val (.ref ob), .val (.ref da), .val (.int (0 : Int32)), .val (.int (Int32.ofNat len)), .val (.int (Int32.ofNat i)), .val (.int (Int32.ofNat cb)), .val (.int (Int32.ofNat mm))] [(.int ((Int32.ofNat cb) - (Int32.ofNat cb))), (.ref ck), (.int (Int32.ofNat i)), (.ref da)]))
          rw [show ((Int32.ofNat cb) - (Int32.ofNat cb)) = (Int32.ofNat (cb - cb)) from own_sub cb cb (cb - cb) (by omega)]
          show Gl p e below P (T8.setTop (mkF m 60 #[.val (.ref ob), .val (.ref da), .val (.int (0 : Int32)), .val (.int (Int32.ofNat len)), .val (.int (Int32.ofNat i)), .val (.int (Int32.ofNat cb)), .val (.int (Int32.ofNat mm))] [(.int (Int32.ofNat (cb - cb))), (.ref ck), (.int (Int32.ofNat i)), (.ref da)]))
          refine Gl.st (fun _ k => XS.iload X8.here hx rfl (hb hby d75_60) rfl k) ?_
          show Gl p e below P (T8.setTop (mkF m 62 #[.val (.ref ob), .val (.ref da), .val (.int (0 : Int32)), .val (.int (Int32.ofNat len)), .val (.int (Int32.ofNat i)), .val (.int (Int32.ofNat cb)), .val (.int (Int32.ofNat mm))] [(.int (Int32.ofNat mm)), (.int (Int32.ofNat (cb - cb))), (.ref ck), (.int (Int32.ofNat i)), (.ref da)]))
          have hd1 := own_nn (cb - cb) (by omega)
          have hd2 := own_nn mm (by omega)
          have hd3 := own_nn i (by omega)
          have hd4 := own_nn cb (by omega)
          have hd5 : (16 : Int32).toNatClampNeg = 16 := by decide
          obtain ⟨T9, h9, L9, X9, e9, N9, K9, VD9, st9⟩ := cpA X8 hx hZ hown (hw _ (List.mem_of_getElem? (i := 121) rfl)) (hw _ (List.mem_of_getElem? (i := 124) rfl)) (hw _ (List.mem_of_getElem? (i := 122) rfl)) (hw _ (List.mem_of_getElem? (i := 123) rfl)) e8 J1_V_da_v2 VC2 (Or.inl ⟨rfl, rfl⟩) (own_neg i (by omega)) (own_neg (cb - cb) (by omega)) (own_neg mm (by omega)) (by rw [hd3, hd2, hd5]; omega) (by rw [hd1, hd2, hd4]; omega) rfl (by rw [hd1, hd2, hbs]; omega) N7 g_ck (g := (mkF m 62 #[.val (.ref ob), .val (.ref da), .val (.int (0 : Int32)), .val (.int (Int32.ofNat len)), .val (.int (Int32.ofNat i)), .val (.int (Int32.ofNat cb)), .val (.int (Int32.ofNat mm))] [(.int (Int32.ofNat mm)), (.int (Int32.ofNat (cb - cb))), (.ref ck), (.int (Int32.ofNat i)), (.ref da)])) rfl (by rw [hml]; rfl) rfl (hb hby d75_62) (by decide) (W := 0) (by show 2 * 0 + _ ≤ _; exact Nat.le_of_eq rfl) (by decide)
          refine Gl.st st9 ?_
          have J1_Z_v9 : n0 ≤ h9.size := Nat.le_trans J1_Z_v2 K9.1
          have J1_V_da_v9 : Arv Z h9 da kda .byte (16 : Int32) bsd (.int (0 : Int32)) := J1_V_da_v2.keep K9 (ninS ne_da_ck nin0)
          have EOk_v9 : Exa Z h9 ob "com/example/cotab/cotab/ChunkedBytes" := EOk_v2.keep K9
          have FCk_v9 : Fld Z h9 ob "com/example/cotab/cotab/ChunkedBytes" "chunks" "Ljava/util/List;" (.ref li) := FCk_v2.keep K9 (ninS ne_ob_ckr nin0)
          have FBk_v9 : Fld Z h9 ob "com/example/cotab/cotab/ChunkedBytes" "chunkBytes" "I" (.int (Int32.ofNat cb)) := FBk_v2.keep K9 (ninS ne_ob_ckr nin0)
          have FZk_v9 : Fld Z h9 ob "com/example/cotab/cotab/ChunkedBytes" "size" "I" (.int (Int32.ofNat (sz + i))) := FZk_v2.keep K9 (ninS ne_ob_ckr nin0)
          have ELr_v9 : Exa Z h9 li "java/util/ArrayList" := ELr.keep K9
          have O2q_v9 : Old Z n0 h9 := O2q.keep K9 (allS g_ck all0)
          have FDr_v9 : Fld Z h9 li "java/util/ArrayList" "elementData" "[Ljava/lang/Object;" (.ref ed2) := FDr.keep K9 (ninS ne_li_ckr nin0)
          have FSr_v9 : Fld Z h9 li "java/util/ArrayList" "size" "I" (.int (Int32.ofNat (n + 1))) := FSr.keep K9 (ninS ne_li_ckr nin0)
          have FMr_v9 : Fld Z h9 li "java/util/AbstractList" "modCount" "I" (.int mc2) := FMr.keep K9 (ninS ne_li_ckr nin0)
          have EEr_v9 : Exa Z h9 ed2 "[Ljava/lang/Object;" := EEr.keep K9
          have VEr_v9 : Arv Z h9 ed2 ke2 (.object "java/lang/Object") (Int32.ofNat cap2) vs2 .null := VEr.keep K9 (ninS ne_ed2_ckr nin0)
          have LEr_v9 : own_El Z h9 vs2 := own_El_keep K9 LEr
          have EC2_v9 : Exa Z h9 ck "[B" := EC2.keep K9
          obtain ⟨bs3, hb3, VC3⟩ : ∃ bs3, bs3.length = cb ∧ Arv Z h9 ck kk .byte (Int32.ofNat cb) bs3 (.int (0 : Int32)) := ⟨_, own_splen _ _ hbs (by rw [List.length_map, List.length_range]) (by rw [hd1, hd2]; omega), VD9⟩
          show Gl p e below P (T9.setTop (mkF m 65 #[.val (.ref ob), .val (.ref da), .val (.int (0 : Int32)), .val (.int (Int32.ofNat len)), .val (.int (Int32.ofNat i)), .val (.int (Int32.ofNat cb)), .val (.int (Int32.ofNat mm))] []))
          refine Gl.st (fun _ k => XS.aloadN X9.here hx rfl (hb hby d75_65) rfl rfl k) ?_
          show Gl p e below P (T9.setTop (mkF m 66 #[.val (.ref ob), .val (.ref da), .val (.int (0 : Int32)), .val (.int (Int32.ofNat len)), .val (.int (Int32.ofNat i)), .val (.int (Int32.ofNat cb)), .val (.int (Int32.ofNat mm))] [(.ref ob)]))
          refine Gl.st (fun _ k => XS.dup X9.here hx rfl (hb hby d75_66) rfl rfl k) ?_
          show Gl p e below P (T9.setTop (mkF m 67 #[.val (.ref ob), .val (.ref da), .val (.int (0 : Int32)), .val (.int (Int32.ofNat len)), .val (.int (Int32.ofNat i)), .val (.int (Int32.ofNat cb)), .val (.int (Int32.ofNat mm))] [(.ref ob), (.ref ob)]))
          obtain ⟨T10, X10, e10, st10⟩ := getF X9 hx hZ hown (host := "") (Or.inl (hw _ (List.mem_of_getElem? (i := 63) rfl))) Via.refl e9 FZk_v9 (g := (mkF m 67 #[.val (.ref ob), .val (.ref da), .val (.int (0 : Int32)), .val (.int (Int32.ofNat len)), .val (.int (Int32.ofNat i)), .val (.int (Int32.ofNat cb)), .val (.int (Int32.ofNat mm))] [(.ref ob), (.ref ob)])) rfl rfl (hb hby d75_67)
          refine Gl.st st10 ?_
          show Gl p e below P (T10.setTop (mkF m 70 #[.val (.ref ob), .val (.ref da), .val (.int (0 : Int32)), .val (.int (Int32.ofNat len)), .val (.int (Int32.ofNat i)), .val (.int (Int32.ofNat cb)), .val (.int (Int32.ofNat mm))] [(.int (Int32.ofNat (sz + i))), (.ref ob)]))
          refine Gl.st (fun _ k => XS.iload X10.here hx rfl (hb hby d75_70) rfl k) ?_
          show Gl p e below P (T10.setTop (mkF m 72 #[.val (.ref ob), .val (.ref da), .val (.int (0 : Int32)), .val (.int (Int32.ofNat len)), .val (.int (Int32.ofNat i)), .val (.int (Int32.ofNat cb)), .val (.int (Int32.ofNat mm))] [(.int (Int32.ofNat mm)), (.int (Int32.ofNat (sz + i))), (.ref ob)]))
          refine Gl.st (fun _ k => XS.iadd X10.here hx rfl (hb hby d75_72) rfl k) ?_
          show Gl p e below P (T10.setTop (mkF m 73 #[.val (.ref ob), .val (.ref da), .val (.int (0 : Int32)), .val (.int (Int32.ofNat len)), .val (.int (Int32.ofNat i)), .val (.int (Int32.ofNat cb)), .val (.int (Int32.ofNat mm))] [(.int ((Int32.ofNat (sz + i)) + (Int32.ofNat mm))), (.ref ob)]))
          rw [show ((Int32.ofNat (sz + i)) + (Int32.ofNat mm)) = (Int32.ofNat (sz + (i + mm))) from by rw [own_add, Nat.add_assoc]]
          show Gl p e below P (T10.setTop (mkF m 73 #[.val (.ref ob), .val (.ref da), .val (.int (0 : Int32)), .val (.int (Int32.ofNat len)), .val (.int (Int32.ofNat i)), .val (.int (Int32.ofNat cb)), .val (.int (Int32.ofNat mm))] [(.int (Int32.ofNat (sz + (i + mm)))), (.ref ob)]))
          obtain ⟨T11, h11, X11, e11, W11, st11⟩ := putF X10 hx hZ hown (host := "") (Or.inl (hw _ (List.mem_of_getElem? (i := 63) rfl))) Via.refl e10 FZk_v9 EOk_v9 (Or.inl (hw _ (List.mem_of_getElem? (i := 64) rfl))) (hw _ (List.mem_of_getElem? (i := 2) rfl)) (ty := .int) (by decide) rfl rfl (g := (mkF m 73 #[.val (.ref ob), .val (.ref da), .val (.int (0 : Int32)), .val (.int (Int32.ofNat len)), .val (.int (Int32.ofNat i)), .val (.int (Int32.ofNat cb)), .val (.int (Int32.ofNat mm))] [(.int (Int32.ofNat (sz + (i + mm)))), (.ref ob)])) rfl rfl (hb hby d75_73)
          refine Gl.st st11 ?_
          have J1_Z_v11 : n0 ≤ h11.size := Nat.le_trans J1_Z_v9 (Keep.of_wr W11).1
          have J1_V_da_v11 : Arv Z h11 da kda .byte (16 : Int32) bsd (.int (0 : Int32)) := J1_V_da_v9.other W11 (Ne.symm ne_ob_dar)
          have EOk_v11 : Exa Z h11 ob "com/example/cotab/cotab/ChunkedBytes" := EOk_v9.wr W11
          have FCk_v11 : Fld Z h11 ob "com/example/cotab/cotab/ChunkedBytes" "chunks" "Ljava/util/List;" (.ref li) := FCk_v9.other W11 (Or.inr (slot_ne (Or.inr (hw _ (List.mem_of_getElem? (i := 40) rfl))) (Or.inl (hw _ (List.mem_of_getElem? (i := 64) rfl))) (by decide) (t := (.object "java/util/List")) (t' := .int) (by decide) (by decide)))
          have FBk_v11 : Fld Z h11 ob "com/example/cotab/cotab/ChunkedBytes" "chunkBytes" "I" (.int (Int32.ofNat cb)) := FBk_v9.other W11 (Or.inr (slot_ne (Or.inr (hw _ (List.mem_of_getElem? (i := 42) rfl))) (Or.inl (hw _ (List.mem_of_getElem? (i := 64) rfl))) (by decide) (t := .int) (t' := .int) (by decide) (by decide)))
          have ELr_v11 : Exa Z h11 li "java/util/ArrayList" := ELr_v9.wr W11
          have O2q_v11 : Old Z n0 h11 := O2q_v9.wr W11 go
          have FDr_v11 : Fld Z h11 li "java/util/ArrayList" "elementData" "[Ljava/lang/Object;" (.ref ed2) := FDr_v9.other W11 (Or.inl ne_li_obr)
          have FSr_v11 : Fld Z h11 li "java/util/ArrayList" "size" "I" (.int (Int32.ofNat (n + 1))) := FSr_v9.other W11 (Or.inl ne_li_obr)
          have FMr_v11 : Fld Z h11 li "java/util/AbstractList" "modCount" "I" (.int mc2) := FMr_v9.other W11 (Or.inl ne_li_obr)
          have EEr_v11 : Exa Z h11 ed2 "[Ljava/lang/Object;" := EEr_v9.wr W11
          have VEr_v11 : Arv Z h11 ed2 ke2 (.object "java/lang/Object") (Int32.ofNat cap2) vs2 .null := VEr_v9.other W11 (Ne.symm ne_ob_ed2r)
          have LEr_v11 : own_El Z h11 vs2 := own_El_wr W11 LEr_v9
          have EC2_v11 : Exa Z h11 ck "[B" := EC2_v9.wr W11
          have VC3_v11 : Arv Z h11 ck kk .byte (Int32.ofNat cb) bs3 (.int (0 : Int32)) := VC3.other W11 (Ne.symm ne_ob_ckr)
          have Fw11 : Fld Z h11 ob "com/example/cotab/cotab/ChunkedBytes" "size" "I" (.int (Int32.ofNat (sz + (i + mm)))) := FZk_v9.same W11
          have N11 := Fr.snoc X11 N9 go
          show Gl p e below P (T11.setTop (mkF m 76 #[.val (.ref ob), .val (.ref da), .val (.int (0 : Int32)), .val (.int (Int32.ofNat len)), .val (.int (Int32.ofNat i)), .val (.int (Int32.ofNat cb)), .val (.int (Int32.ofNat mm))] []))
          refine Gl.st (fun _ k => XS.iload X11.here hx rfl (hb hby d75_76) rfl k) ?_
          show Gl p e below P (T11.setTop (mkF m 78 #[.val (.ref ob), .val (.ref da), .val (.int (0 : Int32)), .val (.int (Int32.ofNat len)), .val (.int (Int32.ofNat i)), .val (.int (Int32.ofNat cb)), .val (.int (Int32.ofNat mm))] [(.int (Int32.ofNat i))]))
          refine Gl.st (fun _ k => XS.iload X11.here hx rfl (hb hby d75_78) rfl k) ?_
          show Gl p e below P (T11.setTop (mkF m 80 #[.val (.ref ob), .val (.ref da), .val (.int (0 : Int32)), .val (.int (Int32.ofNat len)), .val (.int (Int32.ofNat i)), .val (.int (Int32.ofNat cb)), .val (.int (Int32.ofNat mm))] [(.int (Int32.ofNat mm)), (.int (Int32.ofNat i))]))
          refine Gl.st (fun _ k => XS.iadd X11.here hx rfl (hb hby d75_80) rfl k) ?_
          show Gl p e below P (T11.setTop (mkF m 81 #[.val (.ref ob), .val (.ref da), .val (.int (0 : Int32)), .val (.int (Int32.ofNat len)), .val (.int (Int32.ofNat i)), .val (.int (Int32.ofNat cb)), .val (.int (Int32.ofNat mm))] [(.int ((Int32.ofNat i) + (Int32.ofNat mm)))]))
          rw [show ((Int32.ofNat i) + (Int32.ofNat mm)) = (Int32.ofNat (i + mm)) from own_add i mm]
          show Gl p e below P (T11.setTop (mkF m 81 #[.val (.ref ob), .val (.ref da), .val (.int (0 : Int32)), .val (.int (Int32.ofNat len)), .val (.int (Int32.ofNat i)), .val (.int (Int32.ofNat cb)), .val (.int (Int32.ofNat mm))] [(.int (Int32.ofNat (i + mm)))]))
          refine Gl.st (fun _ k => XS.istore X11.here hx rfl (hb hby d75_81) rfl (l' := #[.val (.ref ob), .val (.ref da), .val (.int (0 : Int32)), .val (.int (Int32.ofNat len)), .val (.int (Int32.ofNat (i + mm))), .val (.int (Int32.ofNat cb)), .val (.int (Int32.ofNat mm))]) rfl k) ?_
          show Gl p e below P (T11.setTop (mkF m 83 #[.val (.ref ob), .val (.ref da), .val (.int (0 : Int32)), .val (.int (Int32.ofNat len)), .val (.int (Int32.ofNat (i + mm))), .val (.int (Int32.ofNat cb)), .val (.int (Int32.ofNat mm))] []))
          refine Gl.st (fun _ k => XS.goto X11.here hx rfl (pc0 := 83) (pc' := 3) rfl (hb hby d75_83) (by decide) (by decide) k) ?_
          show Gl p e below P (T11.setTop (mkF m 3 #[.val (.ref ob), .val (.ref da), .val (.int (0 : Int32)), .val (.int (Int32.ofNat len)), .val (.int (Int32.ofNat (i + mm))), .val (.int (Int32.ofNat cb)), .val (.int (Int32.ofNat mm))] []))
          exact ih (i + mm) ed2 ke2 cap2 (n + 1) vs2 mc2 (cb - mm) (ci + 2) (si + (cb + gr)) _ _ T11 _ _ X11 e11 N11 J1_Z_v11 O2q_v11 J1_V_da_v11 (One.val rfl) (One.val rfl) ⟨EOk_v11, FCk_v11, FBk_v11, Fw11⟩ ⟨ELr_v11, FDr_v11, FSr_v11, FMr_v11, EEr_v11, VEr_v11, LEr_v11, hvlr, hncr, hcpr⟩ (by rw [hPr]; omega) (by omega) (by omega) (by omega) (by omega) (by omega) (by omega) (Or.inr ⟨ck, kk, bs3, gd2, VC3_v11, hb3, (Ne.symm ne_da_ck), g_ck⟩)
        · by_cases hr0 : rr = 0
          · clear gdk VCk hbs nckd g_ck
            obtain ⟨gr, hgr⟩ : ∃ gr, ((n < cap ∧ gr = 0) ∨ (n = cap ∧ n ≤ 16 ∧ gr = 22)) := by by_cases q : n < cap; exact ⟨0, Or.inl ⟨q, rfl⟩⟩; exact ⟨22, Or.inr ⟨by omega, by omega, rfl⟩⟩
            have hix := own_ix_gr (by rcases hcpk with ⟨q, -⟩ | ⟨q, -⟩ <;> omega) hgr
            obtain ⟨cq12, q12, q12'⟩ := EOk.cell
            obtain ⟨_, _, ⟨T12, L12, k12, n12⟩, -, X12, ⟨Lc12, hQ12, l12, y12, z12⟩, st12⟩ := X1.privateBack hx (y := (⟨"com/example/cotab/cotab/ChunkedBytes", "room", "()I"⟩ : MethodName)) hown (mvT hZ (hw _ (List.mem_of_getElem? (i := 48) rfl))) (mvT hZ (hw _ (List.mem_of_getElem? (i := 49) rfl))) (mvT hZ (own_sel (y := (⟨"com/example/cotab/cotab/ChunkedBytes", "room", "()I"⟩ : MethodName)) (hw _ (List.mem_of_getElem? (i := 2) rfl)) (hw _ (List.mem_of_getElem? (i := 50) rfl)) (hw _ (List.mem_of_getElem? (i := 49) rfl)) (by decide))) (Cond.privateMethod_at (mvP hZ (hw _ (List.mem_of_getElem? (i := 50) rfl)) (args := #[]))) (mvT hZ (hw _ (List.mem_of_getElem? (i := 51) rfl))) (by decide) (backOf (W := 0) (rm73 l Z a0 hw [] ob li ed ke cap n vs mc dc cb (sz + i) mir gr h1 n0 J1_Z ⟨EOk, FCk, FBk, FZk⟩ ⟨ELk, FDk, FSk, FMk, EEk, VEk, LEk, hvlk, hnck, hcpk⟩ (by rw [hPk, hr0]) hcb hgr gi J1_O SD MI) hZ (hw _ (List.mem_of_getElem? (i := 51) rfl)) (hw _ (List.mem_of_getElem? (i := 3) rfl)) (Nat.le_of_ble_eq_true rfl) (Nat.le_of_ble_eq_true rfl)) (g := (mkF m 12 #[.val (.ref ob), .val (.ref da), .val (.int (0 : Int32)), .val (.int (Int32.ofNat len)), .val (.int (Int32.ofNat i)), s5, s6] [(.ref ob)])) rfl (by rw [hml]; rfl) (Steps.refl _) (a := ob) (by rw [e1]; exact q12) q12' (argsL := []) (rest := []) (lenOf pd_10 rfl) rfl (by show 2 * 0 + _ ≤ _; exact Nat.le_of_eq rfl) (hb hby d75_12) (fun _ _ => ⟨rfl, e1, (show ci + 2 ≤ 30 by omega), (show si + (cb + gr) ≤ 88 by omega)⟩)
            dsimp only [Pt.U, Pt.locs, Pt.cells, Pt.slots] at X12 l12 y12 z12 st12 hQ12
            subst l12 y12 z12
            obtain ⟨rfl, ed2, ke2, cap2, vs2, mc2, ck, kk, N12q, K12, O12q, HL12, gd12, nx12, EC12, VC12, gc12⟩ := hQ12
            have ne_da_ck : da ≠ ck := Nat.ne_of_lt (Nat.lt_of_lt_of_le J1_V_da.lt gc12)
            have g_ck : n0 ≤ ck := Nat.le_trans J1_Z gc12
            have N12 := Fr.app N1 N12q
            have J1_Z_v12 : n0 ≤ T12.heap.size := Nat.le_trans J1_Z K12.1
            have J1_V_da_v12 : Arv Z T12.heap da kda .byte (16 : Int32) bsd (.int (0 : Int32)) := J1_V_da.keep K12 (ninS (Ne.symm ne_li_dak) (ninS (Ne.symm ne_ed_dak) nin0))
            have EOk_v12 : Exa Z T12.heap ob "com/example/cotab/cotab/ChunkedBytes" := EOk.keep K12
            have FCk_v12 : Fld Z T12.heap ob "com/example/cotab/cotab/ChunkedBytes" "chunks" "Ljava/util/List;" (.ref li) := FCk.keep K12 (ninS (Ne.symm ne_li_obk) (ninS ne_ob_edk nin0))
            have FBk_v12 : Fld Z T12.heap ob "com/example/cotab/cotab/ChunkedBytes" "chunkBytes" "I" (.int (Int32.ofNat cb)) := FBk.keep K12 (ninS (Ne.symm ne_li_obk) (ninS ne_ob_edk nin0))
            have FZk_v12 : Fld Z T12.heap ob "com/example/cotab/cotab/ChunkedBytes" "size" "I" (.int (Int32.ofNat (sz + i))) := FZk.keep K12 (ninS (Ne.symm ne_li_obk) (ninS ne_ob_edk nin0))
            have ELk_v12 : Exa Z T12.heap li "java/util/ArrayList" := ELk.keep K12
            refine Gl.tr st12 ?_
            show Gl p e below P (T12.setTop (mkF m 15 #[.val (.ref ob), .val (.ref da), .val (.int (0 : Int32)), .val (.int (Int32.ofNat len)), .val (.int (Int32.ofNat i)), s5, s6] [(.int (Int32.ofNat cb))]))
            obtain ⟨ELr, FDr, FSr, FMr, EEr, VEr, LEr, hvlr, hncr, hcpr⟩ := id HL12
            have nler : li ≠ ed2 := ELr.neArv VEr (hw _ (List.mem_of_getElem? (i := 16) rfl))
            have ne_li_obr : li ≠ ob := ne_exa ELr EOk_v12 (by decide)
            have ne_ob_ed2r : ob ≠ ed2 := EOk_v12.neArv VEr (hw _ (List.mem_of_getElem? (i := 2) rfl))
            have ne_li_dar : li ≠ da := ELr.neArv J1_V_da_v12 (hw _ (List.mem_of_getElem? (i := 16) rfl))
            have ne_ob_dar : ob ≠ da := EOk_v12.neArv J1_V_da_v12 (hw _ (List.mem_of_getElem? (i := 2) rfl))
            have ne_ed2_dar : ed2 ≠ da := own_arv_ne VEr J1_V_da_v12 (by decide)
            have ne_li_ckr : li ≠ ck := ELr.neArv VC12 (hw _ (List.mem_of_getElem? (i := 16) rfl))
            have ne_ob_ckr : ob ≠ ck := EOk_v12.neArv VC12 (hw _ (List.mem_of_getElem? (i := 2) rfl))
            have ne_ed2_ckr : ed2 ≠ ck := own_arv_ne VEr VC12 (by decide)
            have hc22r : cap2 ≤ 22 := by rcases hcpr with ⟨q, -⟩ | ⟨q | q | q, -⟩ <;> omega
            have hixr := own_ix_nx nx12
            have hbs : (List.replicate cb (Value.int (0 : Int32))).length = cb := List.length_replicate ..
            have hPr : (n + 1) * cb = sz + (i + 0) + cb := by rw [Nat.succ_mul, hPk, hr0]; omega
            have hra : 1 ≤ cb ∧ cb ≤ cb := by omega
            refine Gl.st (fun _ k => XS.istore X12.here hx rfl (hb hby d75_15) rfl (l' := #[.val (.ref ob), .val (.ref da), .val (.int (0 : Int32)), .val (.int (Int32.ofNat len)), .val (.int (Int32.ofNat i)), .val (.int (Int32.ofNat cb)), s6]) (XS.store1 (i := 5) (v := (.int (Int32.ofNat cb))) rfl o5 rfl) k) ?_
            show Gl p e below P (T12.setTop (mkF m 17 #[.val (.ref ob), .val (.ref da), .val (.int (0 : Int32)), .val (.int (Int32.ofNat len)), .val (.int (Int32.ofNat i)), .val (.int (Int32.ofNat cb)), s6] []))
            refine Gl.st (fun _ k => XS.iload X12.here hx rfl (hb hby d75_17) rfl k) ?_
            show Gl p e below P (T12.setTop (mkF m 19 #[.val (.ref ob), .val (.ref da), .val (.int (0 : Int32)), .val (.int (Int32.ofNat len)), .val (.int (Int32.ofNat i)), .val (.int (Int32.ofNat cb)), s6] [(.int (Int32.ofNat cb))]))
            refine Gl.st (fun _ k => XS.iloadN X12.here hx rfl (hb hby d75_19) rfl k) ?_
            show Gl p e below P (T12.setTop (mkF m 20 #[.val (.ref ob), .val (.ref da), .val (.int (0 : Int32)), .val (.int (Int32.ofNat len)), .val (.int (Int32.ofNat i)), .val (.int (Int32.ofNat cb)), s6] [(.int (0 : Int32)), (.int (Int32.ofNat cb))]))
            refine Gl.st (fun _ k => XS.iloadN X12.here hx rfl (hb hby d75_20) rfl k) ?_
            show Gl p e below P (T12.setTop (mkF m 21 #[.val (.ref ob), .val (.ref da), .val (.int (0 : Int32)), .val (.int (Int32.ofNat len)), .val (.int (Int32.ofNat i)), .val (.int (Int32.ofNat cb)), s6] [(.int (Int32.ofNat len)), (.int (0 : Int32)), (.int (Int32.ofNat cb))]))
            refine Gl.st (fun _ k => XS.iadd X12.here hx rfl (hb hby d75_21) rfl k) ?_
            show Gl p e below P (T12.setTop (mkF m 22 #[.val (.ref ob), .val (.ref da), .val (.int (0 : Int32)), .val (.int (Int32.ofNat len)), .val (.int (Int32.ofNat i)), .val (.int (Int32.ofNat cb)), s6] [(.int ((0 : Int32) + (Int32.ofNat len))), (.int (Int32.ofNat cb))]))
            rw [show ((0 : Int32) + (Int32.ofNat len)) = (Int32.ofNat len) from own_z _]
            show Gl p e below P (T12.setTop (mkF m 22 #[.val (.ref ob), .val (.ref da), .val (.int (0 : Int32)), .val (.int (Int32.ofNat len)), .val (.int (Int32.ofNat i)), .val (.int (Int32.ofNat cb)), s6] [(.int (Int32.ofNat len)), (.int (Int32.ofNat cb))]))
            refine Gl.st (fun _ k => XS.iload X12.here hx rfl (hb hby d75_22) rfl k) ?_
            show Gl p e below P (T12.setTop (mkF m 24 #[.val (.ref ob), .val (.ref da), .val (.int (0 : Int32)), .val (.int (Int32.ofNat len)), .val (.int (Int32.ofNat i)), .val (.int (Int32.ofNat cb)), s6] [(.int (Int32.ofNat i)), (.int (Int32.ofNat len)), (.int (Int32.ofNat cb))]))
            refine Gl.st (fun _ k => XS.isub X12.here hx rfl (hb hby d75_24) rfl k) ?_
            show Gl p e below P (T12.setTop (mkF m 25 #[.val (.ref ob), .val (.ref da), .val (.int (0 : Int32)), .val (.int (Int32.ofNat len)), .val (.int (Int32.ofNat i)), .val (.int (Int32.ofNat cb)), s6] [(.int ((Int32.ofNat len) - (Int32.ofNat i))), (.int (Int32.ofNat cb))]))
            rw [show ((Int32.ofNat len) - (Int32.ofNat i)) = (Int32.ofNat (len - i)) from own_sub len i (len - i) (by omega)]
            show Gl p e below P (T12.setTop (mkF m 25 #[.val (.ref ob), .val (.ref da), .val (.int (0 : Int32)), .val (.int (Int32.ofNat len)), .val (.int (Int32.ofNat i)), .val (.int (Int32.ofNat cb)), s6] [(.int (Int32.ofNat (len - i))), (.int (Int32.ofNat cb))]))
            obtain ⟨mm, hm1, hm2, hm3, hmz⟩ := own_min cb (len - i) (by omega) (by omega) (by omega) (by omega)
            obtain ⟨_, _, ⟨T13, L13, k13, n13⟩, -, X13, ⟨Lc13, hQ13, l13, y13, z13⟩, st13⟩ := Jvm.LawKit.callS X12 hx (y := (⟨"java/lang/Math", "min", "(II)I"⟩ : MethodName)) hown (mvT hZ (hw _ (List.mem_of_getElem? (i := 97) rfl))) (mvT hZ (hw _ (List.mem_of_getElem? (i := 98) rfl))) (mvT hZ (hw _ (List.mem_of_getElem? (i := 92) rfl))) (mvT hZ (hw _ (List.mem_of_getElem? (i := 99) rfl))) (by decide) (backOf (W := 0) (rm51 l Z a0 hw [] (Int32.ofNat cb) (Int32.ofNat (len - i)) (Int32.ofNat mm) T12.heap n0 J1_Z_v12 hmz) hZ (hw _ (List.mem_of_getElem? (i := 99) rfl)) (hw _ (List.mem_of_getElem? (i := 92) rfl)) (by decide) (by decide)) (g := (mkF m 25 #[.val (.ref ob), .val (.ref da), .val (.int (0 : Int32)), .val (.int (Int32.ofNat len)), .val (.int (Int32.ofNat i)), .val (.int (Int32.ofNat cb)), s6] [(.int (Int32.ofNat (len - i))), (.int (Int32.ofNat cb))])) rfl (by rw [hml]; rfl) (argsL := [(.int (Int32.ofNat cb)), (.int (Int32.ofNat (len - i)))]) (rest := []) (lenOf pd_2 rfl) rfl (by show 2 * 0 + _ ≤ _; exact Nat.le_of_eq rfl) (hb hby d75_25) (fun _ _ => ⟨rfl, rfl, (show (ci + 2) + 0 ≤ 30 by omega), (show (si + (cb + gr)) + 0 ≤ 88 by omega)⟩)
            dsimp only [Pt.U, Pt.locs, Pt.cells, Pt.slots] at X13 l13 y13 z13 st13 hQ13
            subst l13 y13 z13
            obtain ⟨rfl, N13q, e13⟩ := hQ13
            have N13 := Fr.app N12 N13q
            refine Gl.st st13 ?_
            show Gl p e below P (T13.setTop (mkF m 28 #[.val (.ref ob), .val (.ref da), .val (.int (0 : Int32)), .val (.int (Int32.ofNat len)), .val (.int (Int32.ofNat i)), .val (.int (Int32.ofNat cb)), s6] [(.int (Int32.ofNat mm))]))
            refine Gl.st (fun _ k => XS.istore X13.here hx rfl (hb hby d75_28) rfl (l' := #[.val (.ref ob), .val (.ref da), .val (.int (0 : Int32)), .val (.int (Int32.ofNat len)), .val (.int (Int32.ofNat i)), .val (.int (Int32.ofNat cb)), .val (.int (Int32.ofNat mm))]) (XS.store1 (i := 6) (v := (.int (Int32.ofNat mm))) rfl o6 rfl) k) ?_
            show Gl p e below P (T13.setTop (mkF m 30 #[.val (.ref ob), .val (.ref da), .val (.int (0 : Int32)), .val (.int (Int32.ofNat len)), .val (.int (Int32.ofNat i)), .val (.int (Int32.ofNat cb)), .val (.int (Int32.ofNat mm))] []))
            refine Gl.st (fun _ k => XS.aloadN X13.here hx rfl (hb hby d75_30) rfl rfl k) ?_
            show Gl p e below P (T13.setTop (mkF m 31 #[.val (.ref ob), .val (.ref da), .val (.int (0 : Int32)), .val (.int (Int32.ofNat len)), .val (.int (Int32.ofNat i)), .val (.int (Int32.ofNat cb)), .val (.int (Int32.ofNat mm))] [(.ref da)]))
            refine Gl.st (fun _ k => XS.iload X13.here hx rfl (hb hby d75_31) rfl k) ?_
            show Gl p e below P (T13.setTop (mkF m 33 #[.val (.ref ob), .val (.ref da), .val (.int (0 : Int32)), .val (.int (Int32.ofNat len)), .val (.int (Int32.ofNat i)), .val (.int (Int32.ofNat cb)), .val (.int (Int32.ofNat mm))] [(.int (Int32.ofNat i)), (.ref da)]))
            refine Gl.st (fun _ k => XS.aloadN X13.here hx rfl (hb hby d75_33) rfl rfl k) ?_
            show Gl p e below P (T13.setTop (mkF m 34 #[.val (.ref ob), .val (.ref da), .val (.int (0 : Int32)), .val (.int (Int32.ofNat len)), .val (.int (Int32.ofNat i)), .val (.int (Int32.ofNat cb)), .val (.int (Int32.ofNat mm))] [(.ref ob), (.int (Int32.ofNat i)), (.ref da)]))
            obtain ⟨T14, X14, e14, st14⟩ := getF X13 hx hZ hown (host := "") (Or.inl (hw _ (List.mem_of_getElem? (i := 39) rfl))) Via.refl e13 FCk_v12 (g := (mkF m 34 #[.val (.ref ob), .val (.ref da), .val (.int (0 : Int32)), .val (.int (Int32.ofNat len)), .val (.int (Int32.ofNat i)), .val (.int (Int32.ofNat cb)), .val (.int (Int32.ofNat mm))] [(.ref ob), (.int (Int32.ofNat i)), (.ref da)])) rfl rfl (hb hby d75_34)
            refine Gl.st st14 ?_
            show Gl p e below P (T14.setTop (mkF m 37 #[.val (.ref ob), .val (.ref da), .val (.int (0 : Int32)), .val (.int (Int32.ofNat len)), .val (.int (Int32.ofNat i)), .val (.int (Int32.ofNat cb)), .val (.int (Int32.ofNat mm))] [(.ref li), (.int (Int32.ofNat i)), (.ref da)]))
            refine Gl.st (fun _ k => XS.aloadN X14.here hx rfl (hb hby d75_37) rfl rfl k) ?_
            show Gl p e below P (T14.setTop (mkF m 38 #[.val (.ref ob), .val (.ref da), .val (.int (0 : Int32)), .val (.int (Int32.ofNat len)), .val (.int (Int32.ofNat i)), .val (.int (Int32.ofNat cb)), .val (.int (Int32.ofNat mm))] [(.ref ob), (.ref li), (.int (Int32.ofNat i)), (.ref da)]))
            obtain ⟨T15, X15, e15, st15⟩ := getF X14 hx hZ hown (host := "") (Or.inl (hw _ (List.mem_of_getElem? (i := 39) rfl))) Via.refl e14 FCk_v12 (g := (mkF m 38 #[.val (.ref ob), .val (.ref da), .val (.int (0 : Int32)), .val (.int (Int32.ofNat len)), .val (.int (Int32.ofNat i)), .val (.int (Int32.ofNat cb)), .val (.int (Int32.ofNat mm))] [(.ref ob), (.ref li), (.int (Int32.ofNat i)), (.ref da)])) rfl rfl (hb hby d75_38)
            refine Gl.st st15 ?_
            show Gl p e below P (T15.setTop (mkF m 41 #[.val (.ref ob), .val (.ref da), .val (.int (0 : Int32)), .val (.int (Int32.ofNat len)), .val (.int (Int32.ofNat i)), .val (.int (Int32.ofNat cb)), .val (.int (Int32.ofNat mm))] [(.ref li), (.ref li), (.int (Int32.ofNat i)), (.ref da)]))
            obtain ⟨cq16, kq16, q16a, q16b, q16c⟩ := isOf hZ e15 ELr
            obtain ⟨_, _, ⟨T16, L16, k16, n16⟩, -, X16, ⟨Lc16, hQ16, l16, y16, z16⟩, st16⟩ := X15.interfaceBack hx (xi := (⟨"java/util/List", "size", "()I"⟩ : MethodName)) (y := (⟨"java/util/ArrayList", "size", "()I"⟩ : MethodName)) hown (mvT hZ (hw _ (List.mem_of_getElem? (i := 52) rfl))) (mvT hZ (hw _ (List.mem_of_getElem? (i := 53) rfl))) (mvT hZ (hw _ (List.mem_of_getElem? (i := 54) rfl))) (mvT hZ (hw _ (List.mem_of_getElem? (i := 55) rfl))) (mvT hZ (hw _ (List.mem_of_getElem? (i := 56) rfl))) (mvT hZ (hw _ (List.mem_of_getElem? (i := 57) rfl))) (mvT hZ (hw _ (List.mem_of_getElem? (i := 58) rfl))) (mvT hZ (hw _ (List.mem_of_getElem? (i := 59) rfl))) (by decide) (backOf (W := 3) (rm45 l Z a0 hw [] li (Int32.ofNat (n + 1)) T12.heap n0 J1_Z_v12 ELr FSr) hZ (hw _ (List.mem_of_getElem? (i := 60) rfl)) (hw _ (List.mem_of_getElem? (i := 17) rfl)) (by decide) (by decide)) q16a q16b q16c (g := (mkF m 41 #[.val (.ref ob), .val (.ref da), .val (.int (0 : Int32)), .val (.int (Int32.ofNat len)), .val (.int (Int32.ofNat i)), .val (.int (Int32.ofNat cb)), .val (.int (Int32.ofNat mm))] [(.ref li), (.ref li), (.int (Int32.ofNat i)), (.ref da)])) rfl (by rw [hml]; rfl) (Steps.refl _) (argsL := []) (rest := [(.ref li), (.int (Int32.ofNat i)), (.ref da)]) (lenOf pd_10 rfl) rfl (by show 2 * 0 + _ ≤ _; exact Nat.le_of_eq rfl) (hb hby d75_41) (fun _ _ => ⟨rfl, e15, (show ((ci + 2) + 0) + 0 ≤ 30 by omega), (show ((si + (cb + gr)) + 0) + 0 ≤ 88 by omega)⟩)
            dsimp only [Pt.U, Pt.locs, Pt.cells, Pt.slots] at X16 l16 y16 z16 st16 hQ16
            subst l16 y16 z16
            obtain ⟨rfl, N16q, e16⟩ := hQ16
            have N16 := Fr.app N13 N16q
            refine Gl.tr st16 ?_
            show Gl p e below P (T16.setTop (mkF m 46 #[.val (.ref ob), .val (.ref da), .val (.int (0 : Int32)), .val (.int (Int32.ofNat len)), .val (.int (Int32.ofNat i)), .val (.int (Int32.ofNat cb)), .val (.int (Int32.ofNat mm))] [(.int (Int32.ofNat (n + 1))), (.ref li), (.int (Int32.ofNat i)), (.ref da)]))
            refine Gl.st (fun _ k => XS.iconst X16.here hx rfl (hb hby d75_46) k) ?_
            show Gl p e below P (T16.setTop (mkF m 47 #[.val (.ref ob), .val (.ref da), .val (.int (0 : Int32)), .val (.int (Int32.ofNat len)), .val (.int (Int32.ofNat i)), .val (.int (Int32.ofNat cb)), .val (.int (Int32.ofNat mm))] [(.int (1 : Int32)), (.int (Int32.ofNat (n + 1))), (.ref li), (.int (Int32.ofNat i)), (.ref da)]))
            refine Gl.st (fun _ k => XS.isub X16.here hx rfl (hb hby d75_47) rfl k) ?_
            show Gl p e below P (T16.setTop (mkF m 48 #[.val (.ref ob), .val (.ref da), .val (.int (0 : Int32)), .val (.int (Int32.ofNat len)), .val (.int (Int32.ofNat i)), .val (.int (Int32.ofNat cb)), .val (.int (Int32.ofNat mm))] [(.int ((Int32.ofNat (n + 1)) - (1 : Int32))), (.ref li), (.int (Int32.ofNat i)), (.ref da)]))
            rw [show ((Int32.ofNat (n + 1)) - (1 : Int32)) = (Int32.ofNat ((n + 1) - 1)) from own_sub (n + 1) 1 ((n + 1) - 1) (by omega)]
            show Gl p e below P (T16.setTop (mkF m 48 #[.val (.ref ob), .val (.ref da), .val (.int (0 : Int32)), .val (.int (Int32.ofNat len)), .val (.int (Int32.ofNat i)), .val (.int (Int32.ofNat cb)), .val (.int (Int32.ofNat mm))] [(.int (Int32.ofNat ((n + 1) - 1))), (.ref li), (.int (Int32.ofNat i)), (.ref da)]))
            obtain ⟨cq17, kq17, q17a, q17b, q17c⟩ := isOf hZ e16 ELr
            obtain ⟨_, _, ⟨T17, L17, k17, n17⟩, -, X17, ⟨Lc17, hQ17, l17, y17, z17⟩, st17⟩ := X16.interfaceBack hx (xi := (⟨"java/util/List", "get", "(I)Ljava/lang/Object;"⟩ : MethodName)) (y := (⟨"java/util/ArrayList", "get", "(I)Ljava/lang/Object;"⟩ : MethodName)) hown (mvT hZ (hw _ (List.mem_of_getElem? (i := 100) rfl))) (mvT hZ (hw _ (List.mem_of_getElem? (i := 101) rfl))) (mvT hZ (hw _ (List.mem_of_getElem? (i := 102) rfl))) (mvT hZ (hw _ (List.mem_of_getElem? (i := 103) rfl))) (mvT hZ (hw _ (List.mem_of_getElem? (i := 104) rfl))) (mvT hZ (hw _ (List.mem_of_getElem? (i := 105) rfl))) (mvT hZ (hw _ (List.mem_of_getElem? (i := 106) rfl))) (mvT hZ (hw _ (List.mem_of_getElem? (i := 59) rfl))) (by decide) (backOf (W := 2) (rm50 l Z a0 hw [] li ed2 ke2 cap2 (n + 1) vs2 mc2 dc ((n + 1) - 1) ck T12.heap n0 J1_Z_v12 ⟨ELr, FDr, FSr, FMr, EEr, VEr, LEr, hvlr, hncr, hcpr⟩ (by omega) (by omega) gd12) hZ (hw _ (List.mem_of_getElem? (i := 107) rfl)) (hw _ (List.mem_of_getElem? (i := 17) rfl)) (by decide) (by decide)) q17a q17b q17c (g := (mkF m 48 #[.val (.ref ob), .val (.ref da), .val (.int (0 : Int32)), .val (.int (Int32.ofNat len)), .val (.int (Int32.ofNat i)), .val (.int (Int32.ofNat cb)), .val (.int (Int32.ofNat mm))] [(.int (Int32.ofNat ((n + 1) - 1))), (.ref li), (.int (Int32.ofNat i)), (.ref da)])) rfl (by rw [hml]; rfl) (Steps.refl _) (argsL := [(.int (Int32.ofNat ((n + 1) - 1)))]) (rest := [(.int (Int32.ofNat i)), (.ref da)]) (lenOf pd_3 rfl) rfl (by show 2 * 0 + _ ≤ _; exact Nat.le_of_eq rfl) (hb hby d75_48) (fun _ _ => ⟨rfl, e16, (show (((ci + 2) + 0) + 0) + 0 ≤ 30 by omega), (show (((si + (cb + gr)) + 0) + 0) + 0 ≤ 88 by omega)⟩)
            dsimp only [Pt.U, Pt.locs, Pt.cells, Pt.slots] at X17 l17 y17 z17 st17 hQ17
            subst l17 y17 z17
            obtain ⟨rfl, N17q, e17⟩ := hQ17
            have N17 := Fr.app N16 N17q
            refine Gl.tr st17 ?_
            show Gl p e below P (T17.setTop (mkF m 53 #[.val (.ref ob), .val (.ref da), .val (.int (0 : Int32)), .val (.int (Int32.ofNat len)), .val (.int (Int32.ofNat i)), .val (.int (Int32.ofNat cb)), .val (.int (Int32.ofNat mm))] [(.ref ck), (.int (Int32.ofNat i)), (.ref da)]))
            refine Gl.st (fun _ k => XS.aloadN X17.here hx rfl (hb hby d75_53) rfl rfl k) ?_
            show Gl p e below P (T17.setTop (mkF m 54 #[.val (.ref ob), .val (.ref da), .val (.int (0 : Int32)), .val (.int (Int32.ofNat len)), .val (.int (Int32.ofNat i)), .val (.int (Int32.ofNat cb)), .val (.int (Int32.ofNat mm))] [(.ref ob), (.ref ck), (.int (Int32.ofNat i)), (.ref da)]))
            obtain ⟨T18, X18, e18, st18⟩ := getF X17 hx hZ hown (host := "") (Or.inl (hw _ (List.mem_of_getElem? (i := 41) rfl))) Via.refl e17 FBk_v12 (g := (mkF m 54 #[.val (.ref ob), .val (.ref da), .val (.int (0 : Int32)), .val (.int (Int32.ofNat len)), .val (.int (Int32.ofNat i)), .val (.int (Int32.ofNat cb)), .val (.int (Int32.ofNat mm))] [(.ref ob), (.ref ck), (.int (Int32.ofNat i)), (.ref da)])) rfl rfl (hb hby d75_54)
            refine Gl.st st18 ?_
            show Gl p e below P (T18.setTop (mkF m 57 #[.val (.ref ob), .val (.ref da), .val (.int (0 : Int32)), .val (.int (Int32.ofNat len)), .val (.int (Int32.ofNat i)), .val (.int (Int32.ofNat cb)), .val (.int (Int32.ofNat mm))] [(.int (Int32.ofNat cb)), (.ref ck), (.int (Int32.ofNat i)), (.ref da)]))
            refine Gl.st (fun _ k => XS.iload X18.here hx rfl (hb hby d75_57) rfl k) ?_
            show Gl p e below P (T18.setTop (mkF m 59 #[.val (.ref ob), .val (.ref da), .val (.int (0 : Int32)), .val (.int (Int32.ofNat len)), .val (.int (Int32.ofNat i)), .val (.int (Int32.ofNat cb)), .val (.int (Int32.ofNat mm))] [(.int (Int32.ofNat cb)), (.int (Int32.ofNat cb)), (.ref ck), (.int (Int32.ofNat i)), (.ref da)]))
            refine Gl.st (fun _ k => XS.isub X18.here hx rfl (hb hby d75_59) rfl k) ?_
            show Gl p e below P (T18.setTop (mkF m 60 #[.val (.ref ob), .val (.ref da), .val (.int (0 : Int32)), .val (.int (Int32.ofNat len)), .val (.int (Int32.ofNat i)), .val (.int (Int32.ofNat cb)), .val (.int (Int32.ofNat mm))] [(.int ((Int32.ofNat cb) - (Int32.ofNat cb))), (.ref ck), (.int (Int32.ofNat i)), (.ref da)]))
            rw [show ((Int32.ofNat cb) - (Int32.ofNat cb)) = (Int32.ofNat (cb - cb)) from own_sub cb cb (cb - cb) (by omega)]
            show Gl p e below P (T18.setTop (mkF m 60 #[.val (.ref ob), .val (.ref da), .val (.int (0 : Int32)), .val (.int (Int32.ofNat len)), .val (.int (Int32.ofNat i)), .val (.int (Int32.ofNat cb)), .val (.int (Int32.ofNat mm))] [(.int (Int32.ofNat (cb - cb))), (.ref ck), (.int (Int32.ofNat i)), (.ref da)]))
            refine Gl.st (fun _ k => XS.iload X18.here hx rfl (hb hby d75_60) rfl k) ?_
            show Gl p e below P (T18.setTop (mkF m 62 #[.val (.ref ob), .val (.ref da), .val (.int (0 : Int32)), .val (.int (Int32.ofNat len)), .val (.int (Int32.ofNat i)), .val (.int (Int32.ofNat cb)), .val (.int (Int32.ofNat mm))] [(.int (Int32.ofNat mm)), (.int (Int32.ofNat (cb - cb))), (.ref ck), (.int (Int32.ofNat i)), (.ref da)]))
            have hd1 := own_nn (cb - cb) (by omega)
            have hd2 := own_nn mm (by omega)
            have hd3 := own_nn i (by omega)
            have hd4 := own_nn cb (by omega)
            have hd5 : (16 : Int32).toNatClampNeg = 16 := by decide
            obtain ⟨T19, h19, L19, X19, e19, N19, K19, VD19, st19⟩ := cpA X18 hx hZ hown (hw _ (List.mem_of_getElem? (i := 121) rfl)) (hw _ (List.mem_of_getElem? (i := 124) rfl)) (hw _ (List.mem_of_getElem? (i := 122) rfl)) (hw _ (List.mem_of_getElem? (i := 123) rfl)) e18 J1_V_da_v12 VC12 (Or.inl ⟨rfl, rfl⟩) (own_neg i (by omega)) (own_neg (cb - cb) (by omega)) (own_neg mm (by omega)) (by rw [hd3, hd2, hd5]; omega) (by rw [hd1, hd2, hd4]; omega) rfl (by rw [hd1, hd2, hbs]; omega) N17 g_ck (g := (mkF m 62 #[.val (.ref ob), .val (.ref da), .val (.int (0 : Int32)), .val (.int (Int32.ofNat len)), .val (.int (Int32.ofNat i)), .val (.int (Int32.ofNat cb)), .val (.int (Int32.ofNat mm))] [(.int (Int32.ofNat mm)), (.int (Int32.ofNat (cb - cb))), (.ref ck), (.int (Int32.ofNat i)), (.ref da)])) rfl (by rw [hml]; rfl) rfl (hb hby d75_62) (by decide) (W := 0) (by show 2 * 0 + _ ≤ _; exact Nat.le_of_eq rfl) (by decide)
            refine Gl.st st19 ?_
            have J1_Z_v19 : n0 ≤ h19.size := Nat.le_trans J1_Z_v12 K19.1
            have J1_V_da_v19 : Arv Z h19 da kda .byte (16 : Int32) bsd (.int (0 : Int32)) := J1_V_da_v12.keep K19 (ninS ne_da_ck nin0)
            have EOk_v19 : Exa Z h19 ob "com/example/cotab/cotab/ChunkedBytes" := EOk_v12.keep K19
            have FCk_v19 : Fld Z h19 ob "com/example/cotab/cotab/ChunkedBytes" "chunks" "Ljava/util/List;" (.ref li) := FCk_v12.keep K19 (ninS ne_ob_ckr nin0)
            have FBk_v19 : Fld Z h19 ob "com/example/cotab/cotab/ChunkedBytes" "chunkBytes" "I" (.int (Int32.ofNat cb)) := FBk_v12.keep K19 (ninS ne_ob_ckr nin0)
            have FZk_v19 : Fld Z h19 ob "com/example/cotab/cotab/ChunkedBytes" "size" "I" (.int (Int32.ofNat (sz + i))) := FZk_v12.keep K19 (ninS ne_ob_ckr nin0)
            have ELr_v19 : Exa Z h19 li "java/util/ArrayList" := ELr.keep K19
            have O12q_v19 : Old Z n0 h19 := O12q.keep K19 (allS g_ck all0)
            have FDr_v19 : Fld Z h19 li "java/util/ArrayList" "elementData" "[Ljava/lang/Object;" (.ref ed2) := FDr.keep K19 (ninS ne_li_ckr nin0)
            have FSr_v19 : Fld Z h19 li "java/util/ArrayList" "size" "I" (.int (Int32.ofNat (n + 1))) := FSr.keep K19 (ninS ne_li_ckr nin0)
            have FMr_v19 : Fld Z h19 li "java/util/AbstractList" "modCount" "I" (.int mc2) := FMr.keep K19 (ninS ne_li_ckr nin0)
            have EEr_v19 : Exa Z h19 ed2 "[Ljava/lang/Object;" := EEr.keep K19
            have VEr_v19 : Arv Z h19 ed2 ke2 (.object "java/lang/Object") (Int32.ofNat cap2) vs2 .null := VEr.keep K19 (ninS ne_ed2_ckr nin0)
            have LEr_v19 : own_El Z h19 vs2 := own_El_keep K19 LEr
            have EC12_v19 : Exa Z h19 ck "[B" := EC12.keep K19
            obtain ⟨bs3, hb3, VC3⟩ : ∃ bs3, bs3.length = cb ∧ Arv Z h19 ck kk .byte (Int32.ofNat cb) bs3 (.int (0 : Int32)) := ⟨_, own_splen _ _ hbs (by rw [List.length_map, List.length_range]) (by rw [hd1, hd2]; omega), VD19⟩
            show Gl p e below P (T19.setTop (mkF m 65 #[.val (.ref ob), .val (.ref da), .val (.int (0 : Int32)), .val (.int (Int32.ofNat len)), .val (.int (Int32.ofNat i)), .val (.int (Int32.ofNat cb)), .val (.int (Int32.ofNat mm))] []))
            refine Gl.st (fun _ k => XS.aloadN X19.here hx rfl (hb hby d75_65) rfl rfl k) ?_
            show Gl p e below P (T19.setTop (mkF m 66 #[.val (.ref ob), .val (.ref da), .val (.int (0 : Int32)), .val (.int (Int32.ofNat len)), .val (.int (Int32.ofNat i)), .val (.int (Int32.ofNat cb)), .val (.int (Int32.ofNat mm))] [(.ref ob)]))
            refine Gl.st (fun _ k => XS.dup X19.here hx rfl (hb hby d75_66) rfl rfl k) ?_
            show Gl p e below P (T19.setTop (mkF m 67 #[.val (.ref ob), .val (.ref da), .val (.int (0 : Int32)), .val (.int (Int32.ofNat len)), .val (.int (Int32.ofNat i)), .val (.int (Int32.ofNat cb)), .val (.int (Int32.ofNat mm))] [(.ref ob), (.ref ob)]))
            obtain ⟨T20, X20, e20, st20⟩ := getF X19 hx hZ hown (host := "") (Or.inl (hw _ (List.mem_of_getElem? (i := 63) rfl))) Via.refl e19 FZk_v19 (g := (mkF m 67 #[.val (.ref ob), .val (.ref da), .val (.int (0 : Int32)), .val (.int (Int32.ofNat len)), .val (.int (Int32.ofNat i)), .val (.int (Int32.ofNat cb)), .val (.int (Int32.ofNat mm))] [(.ref ob), (.ref ob)])) rfl rfl (hb hby d75_67)
            refine Gl.st st20 ?_
            show Gl p e below P (T20.setTop (mkF m 70 #[.val (.ref ob), .val (.ref da), .val (.int (0 : Int32)), .val (.int (Int32.ofNat len)), .val (.int (Int32.ofNat i)), .val (.int (Int32.ofNat cb)), .val (.int (Int32.ofNat mm))] [(.int (Int32.ofNat (sz + i))), (.ref ob)]))
            refine Gl.st (fun _ k => XS.iload X20.here hx rfl (hb hby d75_70) rfl k) ?_
            show Gl p e below P (T20.setTop (mkF m 72 #[.val (.ref ob), .val (.ref da), .val (.int (0 : Int32)), .val (.int (Int32.ofNat len)), .val (.int (Int32.ofNat i)), .val (.int (Int32.ofNat cb)), .val (.int (Int32.ofNat mm))] [(.int (Int32.ofNat mm)), (.int (Int32.ofNat (sz + i))), (.ref ob)]))
            refine Gl.st (fun _ k => XS.iadd X20.here hx rfl (hb hby d75_72) rfl k) ?_
            show Gl p e below P (T20.setTop (mkF m 73 #[.val (.ref ob), .val (.ref da), .val (.int (0 : Int32)), .val (.int (Int32.ofNat len)), .val (.int (Int32.ofNat i)), .val (.int (Int32.ofNat cb)), .val (.int (Int32.ofNat mm))] [(.int ((Int32.ofNat (sz + i)) + (Int32.ofNat mm))), (.ref ob)]))
            rw [show ((Int32.ofNat (sz + i)) + (Int32.ofNat mm)) = (Int32.ofNat (sz + (i + mm))) from by rw [own_add, Nat.add_assoc]]
            show Gl p e below P (T20.setTop (mkF m 73 #[.val (.ref ob), .val (.ref da), .val (.int (0 : Int32)), .val (.int (Int32.ofNat len)), .val (.int (Int32.ofNat i)), .val (.int (Int32.ofNat cb)), .val (.int (Int32.ofNat mm))] [(.int (Int32.ofNat (sz + (i + mm)))), (.ref ob)]))
            obtain ⟨T21, h21, X21, e21, W21, st21⟩ := putF X20 hx hZ hown (host := "") (Or.inl (hw _ (List.mem_of_getElem? (i := 63) rfl))) Via.refl e20 FZk_v19 EOk_v19 (Or.inl (hw _ (List.mem_of_getElem? (i := 64) rfl))) (hw _ (List.mem_of_getElem? (i := 2) rfl)) (ty := .int) (by decide) rfl rfl (g := (mkF m 73 #[.val (.ref ob), .val (.ref da), .val (.int (0 : Int32)), .val (.int (Int32.ofNat len)), .val (.int (Int32.ofNat i)), .val (.int (Int32.ofNat cb)), .val (.int (Int32.ofNat mm))] [(.int (Int32.ofNat (sz + (i + mm)))), (.ref ob)])) rfl rfl (hb hby d75_73)
            refine Gl.st st21 ?_
            have J1_Z_v21 : n0 ≤ h21.size := Nat.le_trans J1_Z_v19 (Keep.of_wr W21).1
            have J1_V_da_v21 : Arv Z h21 da kda .byte (16 : Int32) bsd (.int (0 : Int32)) := J1_V_da_v19.other W21 (Ne.symm ne_ob_dar)
            have EOk_v21 : Exa Z h21 ob "com/example/cotab/cotab/ChunkedBytes" := EOk_v19.wr W21
            have FCk_v21 : Fld Z h21 ob "com/example/cotab/cotab/ChunkedBytes" "chunks" "Ljava/util/List;" (.ref li) := FCk_v19.other W21 (Or.inr (slot_ne (Or.inr (hw _ (List.mem_of_getElem? (i := 40) rfl))) (Or.inl (hw _ (List.mem_of_getElem? (i := 64) rfl))) (by decide) (t := (.object "java/util/List")) (t' := .int) (by decide) (by decide)))
            have FBk_v21 : Fld Z h21 ob "com/example/cotab/cotab/ChunkedBytes" "chunkBytes" "I" (.int (Int32.ofNat cb)) := FBk_v19.other W21 (Or.inr (slot_ne (Or.inr (hw _ (List.mem_of_getElem? (i := 42) rfl))) (Or.inl (hw _ (List.mem_of_getElem? (i := 64) rfl))) (by decide) (t := .int) (t' := .int) (by decide) (by decide)))
            have ELr_v21 : Exa Z h21 li "java/util/ArrayList" := ELr_v19.wr W21
            have O12q_v21 : Old Z n0 h21 := O12q_v19.wr W21 go
            have FDr_v21 : Fld Z h21 li "java/util/ArrayList" "elementData" "[Ljava/lang/Object;" (.ref ed2) := FDr_v19.other W21 (Or.inl ne_li_obr)
            have FSr_v21 : Fld Z h21 li "java/util/ArrayList" "size" "I" (.int (Int32.ofNat (n + 1))) := FSr_v19.other W21 (Or.inl ne_li_obr)
            have FMr_v21 : Fld Z h21 li "java/util/AbstractList" "modCount" "I" (.int mc2) := FMr_v19.other W21 (Or.inl ne_li_obr)
            have EEr_v21 : Exa Z h21 ed2 "[Ljava/lang/Object;" := EEr_v19.wr W21
            have VEr_v21 : Arv Z h21 ed2 ke2 (.object "java/lang/Object") (Int32.ofNat cap2) vs2 .null := VEr_v19.other W21 (Ne.symm ne_ob_ed2r)
            have LEr_v21 : own_El Z h21 vs2 := own_El_wr W21 LEr_v19
            have EC12_v21 : Exa Z h21 ck "[B" := EC12_v19.wr W21
            have VC3_v21 : Arv Z h21 ck kk .byte (Int32.ofNat cb) bs3 (.int (0 : Int32)) := VC3.other W21 (Ne.symm ne_ob_ckr)
            have Fw21 : Fld Z h21 ob "com/example/cotab/cotab/ChunkedBytes" "size" "I" (.int (Int32.ofNat (sz + (i + mm)))) := FZk_v19.same W21
            have N21 := Fr.snoc X21 N19 go
            show Gl p e below P (T21.setTop (mkF m 76 #[.val (.ref ob), .val (.ref da), .val (.int (0 : Int32)), .val (.int (Int32.ofNat len)), .val (.int (Int32.ofNat i)), .val (.int (Int32.ofNat cb)), .val (.int (Int32.ofNat mm))] []))
            refine Gl.st (fun _ k => XS.iload X21.here hx rfl (hb hby d75_76) rfl k) ?_
            show Gl p e below P (T21.setTop (mkF m 78 #[.val (.ref ob), .val (.ref da), .val (.int (0 : Int32)), .val (.int (Int32.ofNat len)), .val (.int (Int32.ofNat i)), .val (.int (Int32.ofNat cb)), .val (.int (Int32.ofNat mm))] [(.int (Int32.ofNat i))]))
            refine Gl.st (fun _ k => XS.iload X21.here hx rfl (hb hby d75_78) rfl k) ?_
            show Gl p e below P (T21.setTop (mkF m 80 #[.val (.ref ob), .val (.ref da), .val (.int (0 : Int32)), .val (.int (Int32.ofNat len)), .val (.int (Int32.ofNat i)), .val (.int (Int32.ofNat cb)), .val (.int (Int32.ofNat mm))] [(.int (Int32.ofNat mm)), (.int (Int32.ofNat i))]))
            refine Gl.st (fun _ k => XS.iadd X21.here hx rfl (hb hby d75_80) rfl k) ?_
            show Gl p e below P (T21.setTop (mkF m 81 #[.val (.ref ob), .val (.ref da), .val (.int (0 : Int32)), .val (.int (Int32.ofNat len)), .val (.int (Int32.ofNat i)), .val (.int (Int32.ofNat cb)), .val (.int (Int32.ofNat mm))] [(.int ((Int32.ofNat i) + (Int32.ofNat mm)))]))
            rw [show ((Int32.ofNat i) + (Int32.ofNat mm)) = (Int32.ofNat (i + mm)) from own_add i mm]
            show Gl p e below P (T21.setTop (mkF m 81 #[.val (.ref ob), .val (.ref da), .val (.int (0 : Int32)), .val (.int (Int32.ofNat len)), .val (.int (Int32.ofNat i)), .val (.int (Int32.ofNat cb)), .val (.int (Int32.ofNat mm))] [(.int (Int32.ofNat (i + mm)))]))
            refine Gl.st (fun _ k => XS.istore X21.here hx rfl (hb hby d75_81) rfl (l' := #[.val (.ref ob), .val (.ref da), .val (.int (0 : Int32)), .val (.int (Int32.ofNat len)), .val (.int (Int32.ofNat (i + mm))), .val (.int (Int32.ofNat cb)), .val (.int (Int32.ofNat mm))]) rfl k) ?_
            show Gl p e below P (T21.setTop (mkF m 83 #[.val (.ref ob), .val (.ref da), .val (.int (0 : Int32)), .val (.int (Int32.ofNat len)), .val (.int (Int32.ofNat (i + mm))), .val (.int (Int32.ofNat cb)), .val (.int (Int32.ofNat mm))] []))
            refine Gl.st (fun _ k => XS.goto X21.here hx rfl (pc0 := 83) (pc' := 3) rfl (hb hby d75_83) (by decide) (by decide) k) ?_
            show Gl p e below P (T21.setTop (mkF m 3 #[.val (.ref ob), .val (.ref da), .val (.int (0 : Int32)), .val (.int (Int32.ofNat len)), .val (.int (Int32.ofNat (i + mm))), .val (.int (Int32.ofNat cb)), .val (.int (Int32.ofNat mm))] []))
            exact ih (i + mm) ed2 ke2 cap2 (n + 1) vs2 mc2 (cb - mm) (ci + 2) (si + (cb + gr)) _ _ T21 _ _ X21 e21 N21 J1_Z_v21 O12q_v21 J1_V_da_v21 (One.val rfl) (One.val rfl) ⟨EOk_v21, FCk_v21, FBk_v21, Fw21⟩ ⟨ELr_v21, FDr_v21, FSr_v21, FMr_v21, EEr_v21, VEr_v21, LEr_v21, hvlr, hncr, hcpr⟩ (by rw [hPr]; omega) (by omega) (by omega) (by omega) (by omega) (by omega) (by omega) (Or.inr ⟨ck, kk, bs3, gd12, VC3_v21, hb3, (Ne.symm ne_da_ck), g_ck⟩)
          · have ne_li_ckk : li ≠ ck := ELk.neArv VCk (hw _ (List.mem_of_getElem? (i := 16) rfl))
            have ne_ob_ckk : ob ≠ ck := EOk.neArv VCk (hw _ (List.mem_of_getElem? (i := 2) rfl))
            have ne_ed_ckk : ed ≠ ck := own_arv_ne VEk VCk (by decide)
            obtain ⟨cq22, q22, q22'⟩ := EOk.cell
            obtain ⟨_, _, ⟨T22, L22, k22, n22⟩, -, X22, ⟨Lc22, hQ22, l22, y22, z22⟩, st22⟩ := X1.privateBack hx (y := (⟨"com/example/cotab/cotab/ChunkedBytes", "room", "()I"⟩ : MethodName)) hown (mvT hZ (hw _ (List.mem_of_getElem? (i := 48) rfl))) (mvT hZ (hw _ (List.mem_of_getElem? (i := 49) rfl))) (mvT hZ (own_sel (y := (⟨"com/example/cotab/cotab/ChunkedBytes", "room", "()I"⟩ : MethodName)) (hw _ (List.mem_of_getElem? (i := 2) rfl)) (hw _ (List.mem_of_getElem? (i := 50) rfl)) (hw _ (List.mem_of_getElem? (i := 49) rfl)) (by decide))) (Cond.privateMethod_at (mvP hZ (hw _ (List.mem_of_getElem? (i := 50) rfl)) (args := #[]))) (mvT hZ (hw _ (List.mem_of_getElem? (i := 51) rfl))) (by decide) (backOf (W := 0) (rm72 l Z a0 hw [] ob li ed ke cap n vs mc dc cb (sz + i) rr h1 n0 J1_Z ⟨EOk, FCk, FBk, FZk⟩ ⟨ELk, FDk, FSk, FMk, EEk, VEk, LEk, hvlk, hnck, hcpk⟩ hPk (by omega) (by omega)) hZ (hw _ (List.mem_of_getElem? (i := 51) rfl)) (hw _ (List.mem_of_getElem? (i := 3) rfl)) (by decide) (by decide)) (g := (mkF m 12 #[.val (.ref ob), .val (.ref da), .val (.int (0 : Int32)), .val (.int (Int32.ofNat len)), .val (.int (Int32.ofNat i)), s5, s6] [(.ref ob)])) rfl (by rw [hml]; rfl) (Steps.refl _) (a := ob) (by rw [e1]; exact q22) q22' (argsL := []) (rest := []) (lenOf pd_10 rfl) rfl (by show 2 * 0 + _ ≤ _; exact Nat.le_of_eq rfl) (hb hby d75_12) (fun _ _ => ⟨rfl, e1, (show ci + 0 ≤ 30 by omega), (show si + 0 ≤ 88 by omega)⟩)
            dsimp only [Pt.U, Pt.locs, Pt.cells, Pt.slots] at X22 l22 y22 z22 st22 hQ22
            subst l22 y22 z22
            obtain ⟨rfl, N22q, e22⟩ := hQ22
            have N22 := Fr.app N1 N22q
            refine Gl.tr st22 ?_
            show Gl p e below P (T22.setTop (mkF m 15 #[.val (.ref ob), .val (.ref da), .val (.int (0 : Int32)), .val (.int (Int32.ofNat len)), .val (.int (Int32.ofNat i)), s5, s6] [(.int (Int32.ofNat rr))]))
            have hn1 : 1 ≤ n := by rcases Nat.eq_zero_or_pos n with q | q; rw [q, Nat.zero_mul] at hPk; omega; exact q
            have hra : 1 ≤ rr ∧ rr ≤ cb := by omega
            refine Gl.st (fun _ k => XS.istore X22.here hx rfl (hb hby d75_15) rfl (l' := #[.val (.ref ob), .val (.ref da), .val (.int (0 : Int32)), .val (.int (Int32.ofNat len)), .val (.int (Int32.ofNat i)), .val (.int (Int32.ofNat rr)), s6]) (XS.store1 (i := 5) (v := (.int (Int32.ofNat rr))) rfl o5 rfl) k) ?_
            show Gl p e below P (T22.setTop (mkF m 17 #[.val (.ref ob), .val (.ref da), .val (.int (0 : Int32)), .val (.int (Int32.ofNat len)), .val (.int (Int32.ofNat i)), .val (.int (Int32.ofNat rr)), s6] []))
            refine Gl.st (fun _ k => XS.iload X22.here hx rfl (hb hby d75_17) rfl k) ?_
            show Gl p e below P (T22.setTop (mkF m 19 #[.val (.ref ob), .val (.ref da), .val (.int (0 : Int32)), .val (.int (Int32.ofNat len)), .val (.int (Int32.ofNat i)), .val (.int (Int32.ofNat rr)), s6] [(.int (Int32.ofNat rr))]))
            refine Gl.st (fun _ k => XS.iloadN X22.here hx rfl (hb hby d75_19) rfl k) ?_
            show Gl p e below P (T22.setTop (mkF m 20 #[.val (.ref ob), .val (.ref da), .val (.int (0 : Int32)), .val (.int (Int32.ofNat len)), .val (.int (Int32.ofNat i)), .val (.int (Int32.ofNat rr)), s6] [(.int (0 : Int32)), (.int (Int32.ofNat rr))]))
            refine Gl.st (fun _ k => XS.iloadN X22.here hx rfl (hb hby d75_20) rfl k) ?_
            show Gl p e below P (T22.setTop (mkF m 21 #[.val (.ref ob), .val (.ref da), .val (.int (0 : Int32)), .val (.int (Int32.ofNat len)), .val (.int (Int32.ofNat i)), .val (.int (Int32.ofNat rr)), s6] [(.int (Int32.ofNat len)), (.int (0 : Int32)), (.int (Int32.ofNat rr))]))
            refine Gl.st (fun _ k => XS.iadd X22.here hx rfl (hb hby d75_21) rfl k) ?_
            show Gl p e below P (T22.setTop (mkF m 22 #[.val (.ref ob), .val (.ref da), .val (.int (0 : Int32)), .val (.int (Int32.ofNat len)), .val (.int (Int32.ofNat i)), .val (.int (Int32.ofNat rr)), s6] [(.int ((0 : Int32) + (Int32.ofNat len))), (.int (Int32.ofNat rr))]))
            rw [show ((0 : Int32) + (Int32.ofNat len)) = (Int32.ofNat len) from own_z _]
            show Gl p e below P (T22.setTop (mkF m 22 #[.val (.ref ob), .val (.ref da), .val (.int (0 : Int32)), .val (.int (Int32.ofNat len)), .val (.int (Int32.ofNat i)), .val (.int (Int32.ofNat rr)), s6] [(.int (Int32.ofNat len)), (.int (Int32.ofNat rr))]))
            refine Gl.st (fun _ k => XS.iload X22.here hx rfl (hb hby d75_22) rfl k) ?_
            show Gl p e below P (T22.setTop (mkF m 24 #[.val (.ref ob), .val (.ref da), .val (.int (0 : Int32)), .val (.int (Int32.ofNat len)), .val (.int (Int32.ofNat i)), .val (.int (Int32.ofNat rr)), s6] [(.int (Int32.ofNat i)), (.int (Int32.ofNat len)), (.int (Int32.ofNat rr))]))
            refine Gl.st (fun _ k => XS.isub X22.here hx rfl (hb hby d75_24) rfl k) ?_
            show Gl p e below P (T22.setTop (mkF m 25 #[.val (.ref ob), .val (.ref da), .val (.int (0 : Int32)), .val (.int (Int32.ofNat len)), .val (.int (Int32.ofNat i)), .val (.int (Int32.ofNat rr)), s6] [(.int ((Int32.ofNat len) - (Int32.ofNat i))), (.int (Int32.ofNat rr))]))
            rw [show ((Int32.ofNat len) - (Int32.ofNat i)) = (Int32.ofNat (len - i)) from own_sub len i (len - i) (by omega)]
            show Gl p e below P (T22.setTop (mkF m 25 #[.val (.ref ob), .val (.ref da), .val (.int (0 : Int32)), .val (.int (Int32.ofNat len)), .val (.int (Int32.ofNat i)), .val (.int (Int32.ofNat rr)), s6] [(.int (Int32.ofNat (len - i))), (.int (Int32.ofNat rr))]))
            obtain ⟨mm, hm1, hm2, hm3, hmz⟩ := own_min rr (len - i) (by omega) (by omega) (by omega) (by omega)
            obtain ⟨_, _, ⟨T23, L23, k23, n23⟩, -, X23, ⟨Lc23, hQ23, l23, y23, z23⟩, st23⟩ := Jvm.LawKit.callS X22 hx (y := (⟨"java/lang/Math", "min", "(II)I"⟩ : MethodName)) hown (mvT hZ (hw _ (List.mem_of_getElem? (i := 97) rfl))) (mvT hZ (hw _ (List.mem_of_getElem? (i := 98) rfl))) (mvT hZ (hw _ (List.mem_of_getElem? (i := 92) rfl))) (mvT hZ (hw _ (List.mem_of_getElem? (i := 99) rfl))) (by decide) (backOf (W := 0) (rm51 l Z a0 hw [] (Int32.ofNat rr) (Int32.ofNat (len - i)) (Int32.ofNat mm) h1 n0 J1_Z hmz) hZ (hw _ (List.mem_of_getElem? (i := 99) rfl)) (hw _ (List.mem_of_getElem? (i := 92) rfl)) (by decide) (by decide)) (g := (mkF m 25 #[.val (.ref ob), .val (.ref da), .val (.int (0 : Int32)), .val (.int (Int32.ofNat len)), .val (.int (Int32.ofNat i)), .val (.int (Int32.ofNat rr)), s6] [(.int (Int32.ofNat (len - i))), (.int (Int32.ofNat rr))])) rfl (by rw [hml]; rfl) (argsL := [(.int (Int32.ofNat rr)), (.int (Int32.ofNat (len - i)))]) (rest := []) (lenOf pd_2 rfl) rfl (by show 2 * 0 + _ ≤ _; exact Nat.le_of_eq rfl) (hb hby d75_25) (fun _ _ => ⟨rfl, e22, (show k22 + 0 ≤ 30 by omega), (show n22 + 0 ≤ 88 by omega)⟩)
            dsimp only [Pt.U, Pt.locs, Pt.cells, Pt.slots] at X23 l23 y23 z23 st23 hQ23
            subst l23 y23 z23
            obtain ⟨rfl, N23q, e23⟩ := hQ23
            have N23 := Fr.app N22 N23q
            refine Gl.st st23 ?_
            show Gl p e below P (T23.setTop (mkF m 28 #[.val (.ref ob), .val (.ref da), .val (.int (0 : Int32)), .val (.int (Int32.ofNat len)), .val (.int (Int32.ofNat i)), .val (.int (Int32.ofNat rr)), s6] [(.int (Int32.ofNat mm))]))
            refine Gl.st (fun _ k => XS.istore X23.here hx rfl (hb hby d75_28) rfl (l' := #[.val (.ref ob), .val (.ref da), .val (.int (0 : Int32)), .val (.int (Int32.ofNat len)), .val (.int (Int32.ofNat i)), .val (.int (Int32.ofNat rr)), .val (.int (Int32.ofNat mm))]) (XS.store1 (i := 6) (v := (.int (Int32.ofNat mm))) rfl o6 rfl) k) ?_
            show Gl p e below P (T23.setTop (mkF m 30 #[.val (.ref ob), .val (.ref da), .val (.int (0 : Int32)), .val (.int (Int32.ofNat len)), .val (.int (Int32.ofNat i)), .val (.int (Int32.ofNat rr)), .val (.int (Int32.ofNat mm))] []))
            refine Gl.st (fun _ k => XS.aloadN X23.here hx rfl (hb hby d75_30) rfl rfl k) ?_
            show Gl p e below P (T23.setTop (mkF m 31 #[.val (.ref ob), .val (.ref da), .val (.int (0 : Int32)), .val (.int (Int32.ofNat len)), .val (.int (Int32.ofNat i)), .val (.int (Int32.ofNat rr)), .val (.int (Int32.ofNat mm))] [(.ref da)]))
            refine Gl.st (fun _ k => XS.iload X23.here hx rfl (hb hby d75_31) rfl k) ?_
            show Gl p e below P (T23.setTop (mkF m 33 #[.val (.ref ob), .val (.ref da), .val (.int (0 : Int32)), .val (.int (Int32.ofNat len)), .val (.int (Int32.ofNat i)), .val (.int (Int32.ofNat rr)), .val (.int (Int32.ofNat mm))] [(.int (Int32.ofNat i)), (.ref da)]))
            refine Gl.st (fun _ k => XS.aloadN X23.here hx rfl (hb hby d75_33) rfl rfl k) ?_
            show Gl p e below P (T23.setTop (mkF m 34 #[.val (.ref ob), .val (.ref da), .val (.int (0 : Int32)), .val (.int (Int32.ofNat len)), .val (.int (Int32.ofNat i)), .val (.int (Int32.ofNat rr)), .val (.int (Int32.ofNat mm))] [(.ref ob), (.int (Int32.ofNat i)), (.ref da)]))
            obtain ⟨T24, X24, e24, st24⟩ := getF X23 hx hZ hown (host := "") (Or.inl (hw _ (List.mem_of_getElem? (i := 39) rfl))) Via.refl e23 FCk (g := (mkF m 34 #[.val (.ref ob), .val (.ref da), .val (.int (0 : Int32)), .val (.int (Int32.ofNat len)), .val (.int (Int32.ofNat i)), .val (.int (Int32.ofNat rr)), .val (.int (Int32.ofNat mm))] [(.ref ob), (.int (Int32.ofNat i)), (.ref da)])) rfl rfl (hb hby d75_34)
            refine Gl.st st24 ?_
            show Gl p e below P (T24.setTop (mkF m 37 #[.val (.ref ob), .val (.ref da), .val (.int (0 : Int32)), .val (.int (Int32.ofNat len)), .val (.int (Int32.ofNat i)), .val (.int (Int32.ofNat rr)), .val (.int (Int32.ofNat mm))] [(.ref li), (.int (Int32.ofNat i)), (.ref da)]))
            refine Gl.st (fun _ k => XS.aloadN X24.here hx rfl (hb hby d75_37) rfl rfl k) ?_
            show Gl p e below P (T24.setTop (mkF m 38 #[.val (.ref ob), .val (.ref da), .val (.int (0 : Int32)), .val (.int (Int32.ofNat len)), .val (.int (Int32.ofNat i)), .val (.int (Int32.ofNat rr)), .val (.int (Int32.ofNat mm))] [(.ref ob), (.ref li), (.int (Int32.ofNat i)), (.ref da)]))
            obtain ⟨T25, X25, e25, st25⟩ := getF X24 hx hZ hown (host := "") (Or.inl (hw _ (List.mem_of_getElem? (i := 39) rfl))) Via.refl e24 FCk (g := (mkF m 38 #[.val (.ref ob), .val (.ref da), .val (.int (0 : Int32)), .val (.int (Int32.ofNat len)), .val (.int (Int32.ofNat i)), .val (.int (Int32.ofNat rr)), .val (.int (Int32.ofNat mm))] [(.ref ob), (.ref li), (.int (Int32.ofNat i)), (.ref da)])) rfl rfl (hb hby d75_38)
            refine Gl.st st25 ?_
            show Gl p e below P (T25.setTop (mkF m 41 #[.val (.ref ob), .val (.ref da), .val (.int (0 : Int32)), .val (.int (Int32.ofNat len)), .val (.int (Int32.ofNat i)), .val (.int (Int32.ofNat rr)), .val (.int (Int32.ofNat mm))] [(.ref li), (.ref li), (.int (Int32.ofNat i)), (.ref da)]))
            obtain ⟨cq26, kq26, q26a, q26b, q26c⟩ := isOf hZ e25 ELk
            obtain ⟨_, _, ⟨T26, L26, k26, n26⟩, -, X26, ⟨Lc26, hQ26, l26, y26, z26⟩, st26⟩ := X25.interfaceBack hx (xi := (⟨"java/util/List", "size", "()I"⟩ : MethodName)) (y := (⟨"java/util/ArrayList", "size", "()I"⟩ : MethodName)) hown (mvT hZ (hw _ (List.mem_of_getElem? (i := 52) rfl))) (mvT hZ (hw _ (List.mem_of_getElem? (i := 53) rfl))) (mvT hZ (hw _ (List.mem_of_getElem? (i := 54) rfl))) (mvT hZ (hw _ (List.mem_of_getElem? (i := 55) rfl))) (mvT hZ (hw _ (List.mem_of_getElem? (i := 56) rfl))) (mvT hZ (hw _ (List.mem_of_getElem? (i := 57) rfl))) (mvT hZ (hw _ (List.mem_of_getElem? (i := 58) rfl))) (mvT hZ (hw _ (List.mem_of_getElem? (i := 59) rfl))) (by decide) (backOf (W := 3) (rm45 l Z a0 hw [] li (Int32.ofNat n) h1 n0 J1_Z ELk FSk) hZ (hw _ (List.mem_of_getElem? (i := 60) rfl)) (hw _ (List.mem_of_getElem? (i := 17) rfl)) (by decide) (by decide)) q26a q26b q26c (g := (mkF m 41 #[.val (.ref ob), .val (.ref da), .val (.int (0 : Int32)), .val (.int (Int32.ofNat len)), .val (.int (Int32.ofNat i)), .val (.int (Int32.ofNat rr)), .val (.int (Int32.ofNat mm))] [(.ref li), (.ref li), (.int (Int32.ofNat i)), (.ref da)])) rfl (by rw [hml]; rfl) (Steps.refl _) (argsL := []) (rest := [(.ref li), (.int (Int32.ofNat i)), (.ref da)]) (lenOf pd_10 rfl) rfl (by show 2 * 0 + _ ≤ _; exact Nat.le_of_eq rfl) (hb hby d75_41) (fun _ _ => ⟨rfl, e25, (show k23 + 0 ≤ 30 by omega), (show n23 + 0 ≤ 88 by omega)⟩)
            dsimp only [Pt.U, Pt.locs, Pt.cells, Pt.slots] at X26 l26 y26 z26 st26 hQ26
            subst l26 y26 z26
            obtain ⟨rfl, N26q, e26⟩ := hQ26
            have N26 := Fr.app N23 N26q
            refine Gl.tr st26 ?_
            show Gl p e below P (T26.setTop (mkF m 46 #[.val (.ref ob), .val (.ref da), .val (.int (0 : Int32)), .val (.int (Int32.ofNat len)), .val (.int (Int32.ofNat i)), .val (.int (Int32.ofNat rr)), .val (.int (Int32.ofNat mm))] [(.int (Int32.ofNat n)), (.ref li), (.int (Int32.ofNat i)), (.ref da)]))
            refine Gl.st (fun _ k => XS.iconst X26.here hx rfl (hb hby d75_46) k) ?_
            show Gl p e below P (T26.setTop (mkF m 47 #[.val (.ref ob), .val (.ref da), .val (.int (0 : Int32)), .val (.int (Int32.ofNat len)), .val (.int (Int32.ofNat i)), .val (.int (Int32.ofNat rr)), .val (.int (Int32.ofNat mm))] [(.int (1 : Int32)), (.int (Int32.ofNat n)), (.ref li), (.int (Int32.ofNat i)), (.ref da)]))
            refine Gl.st (fun _ k => XS.isub X26.here hx rfl (hb hby d75_47) rfl k) ?_
            show Gl p e below P (T26.setTop (mkF m 48 #[.val (.ref ob), .val (.ref da), .val (.int (0 : Int32)), .val (.int (Int32.ofNat len)), .val (.int (Int32.ofNat i)), .val (.int (Int32.ofNat rr)), .val (.int (Int32.ofNat mm))] [(.int ((Int32.ofNat n) - (1 : Int32))), (.ref li), (.int (Int32.ofNat i)), (.ref da)]))
            rw [show ((Int32.ofNat n) - (1 : Int32)) = (Int32.ofNat (n - 1)) from own_sub n 1 (n - 1) (by omega)]
            show Gl p e below P (T26.setTop (mkF m 48 #[.val (.ref ob), .val (.ref da), .val (.int (0 : Int32)), .val (.int (Int32.ofNat len)), .val (.int (Int32.ofNat i)), .val (.int (Int32.ofNat rr)), .val (.int (Int32.ofNat mm))] [(.int (Int32.ofNat (n - 1))), (.ref li), (.int (Int32.ofNat i)), (.ref da)]))
            obtain ⟨cq27, kq27, q27a, q27b, q27c⟩ := isOf hZ e26 ELk
            obtain ⟨_, _, ⟨T27, L27, k27, n27⟩, -, X27, ⟨Lc27, hQ27, l27, y27, z27⟩, st27⟩ := X26.interfaceBack hx (xi := (⟨"java/util/List", "get", "(I)Ljava/lang/Object;"⟩ : MethodName)) (y := (⟨"java/util/ArrayList", "get", "(I)Ljava/lang/Object;"⟩ : MethodName)) hown (mvT hZ (hw _ (List.mem_of_getElem? (i := 100) rfl))) (mvT hZ (hw _ (List.mem_of_getElem? (i := 101) rfl))) (mvT hZ (hw _ (List.mem_of_getElem? (i := 102) rfl))) (mvT hZ (hw _ (List.mem_of_getElem? (i := 103) rfl))) (mvT hZ (hw _ (List.mem_of_getElem? (i := 104) rfl))) (mvT hZ (hw _ (List.mem_of_getElem? (i := 105) rfl))) (mvT hZ (hw _ (List.mem_of_getElem? (i := 106) rfl))) (mvT hZ (hw _ (List.mem_of_getElem? (i := 59) rfl))) (by decide) (backOf (W := 2) (rm50 l Z a0 hw [] li ed ke cap n vs mc dc (n - 1) ck h1 n0 J1_Z ⟨ELk, FDk, FSk, FMk, EEk, VEk, LEk, hvlk, hnck, hcpk⟩ (by omega) (by omega) gdk) hZ (hw _ (List.mem_of_getElem? (i := 107) rfl)) (hw _ (List.mem_of_getElem? (i := 17) rfl)) (by decide) (by decide)) q27a q27b q27c (g := (mkF m 48 #[.val (.ref ob), .val (.ref da), .val (.int (0 : Int32)), .val (.int (Int32.ofNat len)), .val (.int (Int32.ofNat i)), .val (.int (Int32.ofNat rr)), .val (.int (Int32.ofNat mm))] [(.int (Int32.ofNat (n - 1))), (.ref li), (.int (Int32.ofNat i)), (.ref da)])) rfl (by rw [hml]; rfl) (Steps.refl _) (argsL := [(.int (Int32.ofNat (n - 1)))]) (rest := [(.int (Int32.ofNat i)), (.ref da)]) (lenOf pd_3 rfl) rfl (by show 2 * 0 + _ ≤ _; exact Nat.le_of_eq rfl) (hb hby d75_48) (fun _ _ => ⟨rfl, e26, (show k26 + 0 ≤ 30 by omega), (show n26 + 0 ≤ 88 by omega)⟩)
            dsimp only [Pt.U, Pt.locs, Pt.cells, Pt.slots] at X27 l27 y27 z27 st27 hQ27
            subst l27 y27 z27
            obtain ⟨rfl, N27q, e27⟩ := hQ27
            have N27 := Fr.app N26 N27q
            refine Gl.tr st27 ?_
            show Gl p e below P (T27.setTop (mkF m 53 #[.val (.ref ob), .val (.ref da), .val (.int (0 : Int32)), .val (.int (Int32.ofNat len)), .val (.int (Int32.ofNat i)), .val (.int (Int32.ofNat rr)), .val (.int (Int32.ofNat mm))] [(.ref ck), (.int (Int32.ofNat i)), (.ref da)]))
            refine Gl.st (fun _ k => XS.aloadN X27.here hx rfl (hb hby d75_53) rfl rfl k) ?_
            show Gl p e below P (T27.setTop (mkF m 54 #[.val (.ref ob), .val (.ref da), .val (.int (0 : Int32)), .val (.int (Int32.ofNat len)), .val (.int (Int32.ofNat i)), .val (.int (Int32.ofNat rr)), .val (.int (Int32.ofNat mm))] [(.ref ob), (.ref ck), (.int (Int32.ofNat i)), (.ref da)]))
            obtain ⟨T28, X28, e28, st28⟩ := getF X27 hx hZ hown (host := "") (Or.inl (hw _ (List.mem_of_getElem? (i := 41) rfl))) Via.refl e27 FBk (g := (mkF m 54 #[.val (.ref ob), .val (.ref da), .val (.int (0 : Int32)), .val (.int (Int32.ofNat len)), .val (.int (Int32.ofNat i)), .val (.int (Int32.ofNat rr)), .val (.int (Int32.ofNat mm))] [(.ref ob), (.ref ck), (.int (Int32.ofNat i)), (.ref da)])) rfl rfl (hb hby d75_54)
            refine Gl.st st28 ?_
            show Gl p e below P (T28.setTop (mkF m 57 #[.val (.ref ob), .val (.ref da), .val (.int (0 : Int32)), .val (.int (Int32.ofNat len)), .val (.int (Int32.ofNat i)), .val (.int (Int32.ofNat rr)), .val (.int (Int32.ofNat mm))] [(.int (Int32.ofNat cb)), (.ref ck), (.int (Int32.ofNat i)), (.ref da)]))
            refine Gl.st (fun _ k => XS.iload X28.here hx rfl (hb hby d75_57) rfl k) ?_
            show Gl p e below P (T28.setTop (mkF m 59 #[.val (.ref ob), .val (.ref da), .val (.int (0 : Int32)), .val (.int (Int32.ofNat len)), .val (.int (Int32.ofNat i)), .val (.int (Int32.ofNat rr)), .val (.int (Int32.ofNat mm))] [(.int (Int32.ofNat rr)), (.int (Int32.ofNat cb)), (.ref ck), (.int (Int32.ofNat i)), (.ref da)]))
            refine Gl.st (fun _ k => XS.isub X28.here hx rfl (hb hby d75_59) rfl k) ?_
            show Gl p e below P (T28.setTop (mkF m 60 #[.val (.ref ob), .val (.ref da), .val (.int (0 : Int32)), .val (.int (Int32.ofNat len)), .val (.int (Int32.ofNat i)), .val (.int (Int32.ofNat rr)), .val (.int (Int32.ofNat mm))] [(.int ((Int32.ofNat cb) - (Int32.ofNat rr))), (.ref ck), (.int (Int32.ofNat i)), (.ref da)]))
            rw [show ((Int32.ofNat cb) - (Int32.ofNat rr)) = (Int32.ofNat (cb - rr)) from own_sub cb rr (cb - rr) (by omega)]
            show Gl p e below P (T28.setTop (mkF m 60 #[.val (.ref ob), .val (.ref da), .val (.int (0 : Int32)), .val (.int (Int32.ofNat len)), .val (.int (Int32.ofNat i)), .val (.int (Int32.ofNat rr)), .val (.int (Int32.ofNat mm))] [(.int (Int32.ofNat (cb - rr))), (.ref ck), (.int (Int32.ofNat i)), (.ref da)]))
            refine Gl.st (fun _ k => XS.iload X28.here hx rfl (hb hby d75_60) rfl k) ?_
            show Gl p e below P (T28.setTop (mkF m 62 #[.val (.ref ob), .val (.ref da), .val (.int (0 : Int32)), .val (.int (Int32.ofNat len)), .val (.int (Int32.ofNat i)), .val (.int (Int32.ofNat rr)), .val (.int (Int32.ofNat mm))] [(.int (Int32.ofNat mm)), (.int (Int32.ofNat (cb - rr))), (.ref ck), (.int (Int32.ofNat i)), (.ref da)]))
            have hd1 := own_nn (cb - rr) (by omega)
            have hd2 := own_nn mm (by omega)
            have hd3 := own_nn i (by omega)
            have hd4 := own_nn cb (by omega)
            have hd5 : (16 : Int32).toNatClampNeg = 16 := by decide
            obtain ⟨T29, h29, L29, X29, e29, N29, K29, VD29, st29⟩ := cpA X28 hx hZ hown (hw _ (List.mem_of_getElem? (i := 121) rfl)) (hw _ (List.mem_of_getElem? (i := 124) rfl)) (hw _ (List.mem_of_getElem? (i := 122) rfl)) (hw _ (List.mem_of_getElem? (i := 123) rfl)) e28 J1_V_da VCk (Or.inl ⟨rfl, rfl⟩) (own_neg i (by omega)) (own_neg (cb - rr) (by omega)) (own_neg mm (by omega)) (by rw [hd3, hd2, hd5]; omega) (by rw [hd1, hd2, hd4]; omega) rfl (by rw [hd1, hd2, hbs]; omega) N27 g_ck (g := (mkF m 62 #[.val (.ref ob), .val (.ref da), .val (.int (0 : Int32)), .val (.int (Int32.ofNat len)), .val (.int (Int32.ofNat i)), .val (.int (Int32.ofNat rr)), .val (.int (Int32.ofNat mm))] [(.int (Int32.ofNat mm)), (.int (Int32.ofNat (cb - rr))), (.ref ck), (.int (Int32.ofNat i)), (.ref da)])) rfl (by rw [hml]; rfl) rfl (hb hby d75_62) (by decide) (W := 0) (by show 2 * 0 + _ ≤ _; exact Nat.le_of_eq rfl) (by decide)
            refine Gl.st st29 ?_
            have J1_Z_v29 : n0 ≤ h29.size := Nat.le_trans J1_Z K29.1
            have J1_O_v29 : Old Z n0 h29 := J1_O.keep K29 (allS g_ck all0)
            have J1_V_da_v29 : Arv Z h29 da kda .byte (16 : Int32) bsd (.int (0 : Int32)) := J1_V_da.keep K29 (ninS (Ne.symm nckd) nin0)
            have EOk_v29 : Exa Z h29 ob "com/example/cotab/cotab/ChunkedBytes" := EOk.keep K29
            have FCk_v29 : Fld Z h29 ob "com/example/cotab/cotab/ChunkedBytes" "chunks" "Ljava/util/List;" (.ref li) := FCk.keep K29 (ninS ne_ob_ckk nin0)
            have FBk_v29 : Fld Z h29 ob "com/example/cotab/cotab/ChunkedBytes" "chunkBytes" "I" (.int (Int32.ofNat cb)) := FBk.keep K29 (ninS ne_ob_ckk nin0)
            have FZk_v29 : Fld Z h29 ob "com/example/cotab/cotab/ChunkedBytes" "size" "I" (.int (Int32.ofNat (sz + i))) := FZk.keep K29 (ninS ne_ob_ckk nin0)
            have ELk_v29 : Exa Z h29 li "java/util/ArrayList" := ELk.keep K29
            have FDk_v29 : Fld Z h29 li "java/util/ArrayList" "elementData" "[Ljava/lang/Object;" (.ref ed) := FDk.keep K29 (ninS ne_li_ckk nin0)
            have FSk_v29 : Fld Z h29 li "java/util/ArrayList" "size" "I" (.int (Int32.ofNat n)) := FSk.keep K29 (ninS ne_li_ckk nin0)
            have FMk_v29 : Fld Z h29 li "java/util/AbstractList" "modCount" "I" (.int mc) := FMk.keep K29 (ninS ne_li_ckk nin0)
            have EEk_v29 : Exa Z h29 ed "[Ljava/lang/Object;" := EEk.keep K29
            have VEk_v29 : Arv Z h29 ed ke (.object "java/lang/Object") (Int32.ofNat cap) vs .null := VEk.keep K29 (ninS ne_ed_ckk nin0)
            have LEk_v29 : own_El Z h29 vs := own_El_keep K29 LEk
            obtain ⟨bs3, hb3, VC3⟩ : ∃ bs3, bs3.length = cb ∧ Arv Z h29 ck kk .byte (Int32.ofNat cb) bs3 (.int (0 : Int32)) := ⟨_, own_splen _ _ hbs (by rw [List.length_map, List.length_range]) (by rw [hd1, hd2]; omega), VD29⟩
            show Gl p e below P (T29.setTop (mkF m 65 #[.val (.ref ob), .val (.ref da), .val (.int (0 : Int32)), .val (.int (Int32.ofNat len)), .val (.int (Int32.ofNat i)), .val (.int (Int32.ofNat rr)), .val (.int (Int32.ofNat mm))] []))
            refine Gl.st (fun _ k => XS.aloadN X29.here hx rfl (hb hby d75_65) rfl rfl k) ?_
            show Gl p e below P (T29.setTop (mkF m 66 #[.val (.ref ob), .val (.ref da), .val (.int (0 : Int32)), .val (.int (Int32.ofNat len)), .val (.int (Int32.ofNat i)), .val (.int (Int32.ofNat rr)), .val (.int (Int32.ofNat mm))] [(.ref ob)]))
            refine Gl.st (fun _ k => XS.dup X29.here hx rfl (hb hby d75_66) rfl rfl k) ?_
            show Gl p e below P (T29.setTop (mkF m 67 #[.val (.ref ob), .val (.ref da), .val (.int (0 : Int32)), .val (.int (Int32.ofNat len)), .val (.int (Int32.ofNat i)), .val (.int (Int32.ofNat rr)), .val (.int (Int32.ofNat mm))] [(.ref ob), (.ref ob)]))
            obtain ⟨T30, X30, e30, st30⟩ := getF X29 hx hZ hown (host := "") (Or.inl (hw _ (List.mem_of_getElem? (i := 63) rfl))) Via.refl e29 FZk_v29 (g := (mkF m 67 #[.val (.ref ob), .val (.ref da), .val (.int (0 : Int32)), .val (.int (Int32.ofNat len)), .val (.int (Int32.ofNat i)), .val (.int (Int32.ofNat rr)), .val (.int (Int32.ofNat mm))] [(.ref ob), (.ref ob)])) rfl rfl (hb hby d75_67)
            refine Gl.st st30 ?_
            show Gl p e below P (T30.setTop (mkF m 70 #[.val (.ref ob), .val (.ref da), .val (.int (0 : Int32)), .val (.int (Int32.ofNat len)), .val (.int (Int32.ofNat i)), .val (.int (Int32.ofNat rr)), .val (.int (Int32.ofNat mm))] [(.int (Int32.ofNat (sz + i))), (.ref ob)]))
            refine Gl.st (fun _ k => XS.iload X30.here hx rfl (hb hby d75_70) rfl k) ?_
            show Gl p e below P (T30.setTop (mkF m 72 #[.val (.ref ob), .val (.ref da), .val (.int (0 : Int32)), .val (.int (Int32.ofNat len)), .val (.int (Int32.ofNat i)), .val (.int (Int32.ofNat rr)), .val (.int (Int32.ofNat mm))] [(.int (Int32.ofNat mm)), (.int (Int32.ofNat (sz + i))), (.ref ob)]))
            refine Gl.st (fun _ k => XS.iadd X30.here hx rfl (hb hby d75_72) rfl k) ?_
            show Gl p e below P (T30.setTop (mkF m 73 #[.val (.ref ob), .val (.ref da), .val (.int (0 : Int32)), .val (.int (Int32.ofNat len)), .val (.int (Int32.ofNat i)), .val (.int (Int32.ofNat rr)), .val (.int (Int32.ofNat mm))] [(.int ((Int32.ofNat (sz + i)) + (Int32.ofNat mm))), (.ref ob)]))
            rw [show ((Int32.ofNat (sz + i)) + (Int32.ofNat mm)) = (Int32.ofNat (sz + (i + mm))) from by rw [own_add, Nat.add_assoc]]
            show Gl p e below P (T30.setTop (mkF m 73 #[.val (.ref ob), .val (.ref da), .val (.int (0 : Int32)), .val (.int (Int32.ofNat len)), .val (.int (Int32.ofNat i)), .val (.int (Int32.ofNat rr)), .val (.int (Int32.ofNat mm))] [(.int (Int32.ofNat (sz + (i + mm)))), (.ref ob)]))
            obtain ⟨T31, h31, X31, e31, W31, st31⟩ := putF X30 hx hZ hown (host := "") (Or.inl (hw _ (List.mem_of_getElem? (i := 63) rfl))) Via.refl e30 FZk_v29 EOk_v29 (Or.inl (hw _ (List.mem_of_getElem? (i := 64) rfl))) (hw _ (List.mem_of_getElem? (i := 2) rfl)) (ty := .int) (by decide) rfl rfl (g := (mkF m 73 #[.val (.ref ob), .val (.ref da), .val (.int (0 : Int32)), .val (.int (Int32.ofNat len)), .val (.int (Int32.ofNat i)), .val (.int (Int32.ofNat rr)), .val (.int (Int32.ofNat mm))] [(.int (Int32.ofNat (sz + (i + mm)))), (.ref ob)])) rfl rfl (hb hby d75_73)
            refine Gl.st st31 ?_
            have J1_Z_v31 : n0 ≤ h31.size := Nat.le_trans J1_Z_v29 (Keep.of_wr W31).1
            have J1_O_v31 : Old Z n0 h31 := J1_O_v29.wr W31 go
            have J1_V_da_v31 : Arv Z h31 da kda .byte (16 : Int32) bsd (.int (0 : Int32)) := J1_V_da_v29.other W31 (Ne.symm ne_ob_dak)
            have EOk_v31 : Exa Z h31 ob "com/example/cotab/cotab/ChunkedBytes" := EOk_v29.wr W31
            have FCk_v31 : Fld Z h31 ob "com/example/cotab/cotab/ChunkedBytes" "chunks" "Ljava/util/List;" (.ref li) := FCk_v29.other W31 (Or.inr (slot_ne (Or.inr (hw _ (List.mem_of_getElem? (i := 40) rfl))) (Or.inl (hw _ (List.mem_of_getElem? (i := 64) rfl))) (by decide) (t := (.object "java/util/List")) (t' := .int) (by decide) (by decide)))
            have FBk_v31 : Fld Z h31 ob "com/example/cotab/cotab/ChunkedBytes" "chunkBytes" "I" (.int (Int32.ofNat cb)) := FBk_v29.other W31 (Or.inr (slot_ne (Or.inr (hw _ (List.mem_of_getElem? (i := 42) rfl))) (Or.inl (hw _ (List.mem_of_getElem? (i := 64) rfl))) (by decide) (t := .int) (t' := .int) (by decide) (by decide)))
            have ELk_v31 : Exa Z h31 li "java/util/ArrayList" := ELk_v29.wr W31
            have FDk_v31 : Fld Z h31 li "java/util/ArrayList" "elementData" "[Ljava/lang/Object;" (.ref ed) := FDk_v29.other W31 (Or.inl ne_li_obk)
            have FSk_v31 : Fld Z h31 li "java/util/ArrayList" "size" "I" (.int (Int32.ofNat n)) := FSk_v29.other W31 (Or.inl ne_li_obk)
            have FMk_v31 : Fld Z h31 li "java/util/AbstractList" "modCount" "I" (.int mc) := FMk_v29.other W31 (Or.inl ne_li_obk)
            have EEk_v31 : Exa Z h31 ed "[Ljava/lang/Object;" := EEk_v29.wr W31
            have VEk_v31 : Arv Z h31 ed ke (.object "java/lang/Object") (Int32.ofNat cap) vs .null := VEk_v29.other W31 (Ne.symm ne_ob_edk)
            have LEk_v31 : own_El Z h31 vs := own_El_wr W31 LEk_v29
            have VC3_v31 : Arv Z h31 ck kk .byte (Int32.ofNat cb) bs3 (.int (0 : Int32)) := VC3.other W31 (Ne.symm ne_ob_ckk)
            have Fw31 : Fld Z h31 ob "com/example/cotab/cotab/ChunkedBytes" "size" "I" (.int (Int32.ofNat (sz + (i + mm)))) := FZk_v29.same W31
            have N31 := Fr.snoc X31 N29 go
            show Gl p e below P (T31.setTop (mkF m 76 #[.val (.ref ob), .val (.ref da), .val (.int (0 : Int32)), .val (.int (Int32.ofNat len)), .val (.int (Int32.ofNat i)), .val (.int (Int32.ofNat rr)), .val (.int (Int32.ofNat mm))] []))
            refine Gl.st (fun _ k => XS.iload X31.here hx rfl (hb hby d75_76) rfl k) ?_
            show Gl p e below P (T31.setTop (mkF m 78 #[.val (.ref ob), .val (.ref da), .val (.int (0 : Int32)), .val (.int (Int32.ofNat len)), .val (.int (Int32.ofNat i)), .val (.int (Int32.ofNat rr)), .val (.int (Int32.ofNat mm))] [(.int (Int32.ofNat i))]))
            refine Gl.st (fun _ k => XS.iload X31.here hx rfl (hb hby d75_78) rfl k) ?_
            show Gl p e below P (T31.setTop (mkF m 80 #[.val (.ref ob), .val (.ref da), .val (.int (0 : Int32)), .val (.int (Int32.ofNat len)), .val (.int (Int32.ofNat i)), .val (.int (Int32.ofNat rr)), .val (.int (Int32.ofNat mm))] [(.int (Int32.ofNat mm)), (.int (Int32.ofNat i))]))
            refine Gl.st (fun _ k => XS.iadd X31.here hx rfl (hb hby d75_80) rfl k) ?_
            show Gl p e below P (T31.setTop (mkF m 81 #[.val (.ref ob), .val (.ref da), .val (.int (0 : Int32)), .val (.int (Int32.ofNat len)), .val (.int (Int32.ofNat i)), .val (.int (Int32.ofNat rr)), .val (.int (Int32.ofNat mm))] [(.int ((Int32.ofNat i) + (Int32.ofNat mm)))]))
            rw [show ((Int32.ofNat i) + (Int32.ofNat mm)) = (Int32.ofNat (i + mm)) from own_add i mm]
            show Gl p e below P (T31.setTop (mkF m 81 #[.val (.ref ob), .val (.ref da), .val (.int (0 : Int32)), .val (.int (Int32.ofNat len)), .val (.int (Int32.ofNat i)), .val (.int (Int32.ofNat rr)), .val (.int (Int32.ofNat mm))] [(.int (Int32.ofNat (i + mm)))]))
            refine Gl.st (fun _ k => XS.istore X31.here hx rfl (hb hby d75_81) rfl (l' := #[.val (.ref ob), .val (.ref da), .val (.int (0 : Int32)), .val (.int (Int32.ofNat len)), .val (.int (Int32.ofNat (i + mm))), .val (.int (Int32.ofNat rr)), .val (.int (Int32.ofNat mm))]) rfl k) ?_
            show Gl p e below P (T31.setTop (mkF m 83 #[.val (.ref ob), .val (.ref da), .val (.int (0 : Int32)), .val (.int (Int32.ofNat len)), .val (.int (Int32.ofNat (i + mm))), .val (.int (Int32.ofNat rr)), .val (.int (Int32.ofNat mm))] []))
            refine Gl.st (fun _ k => XS.goto X31.here hx rfl (pc0 := 83) (pc' := 3) rfl (hb hby d75_83) (by decide) (by decide) k) ?_
            show Gl p e below P (T31.setTop (mkF m 3 #[.val (.ref ob), .val (.ref da), .val (.int (0 : Int32)), .val (.int (Int32.ofNat len)), .val (.int (Int32.ofNat (i + mm))), .val (.int (Int32.ofNat rr)), .val (.int (Int32.ofNat mm))] []))
            exact ih (i + mm) ed ke cap n vs mc (rr - mm) k27 n27 _ _ T31 _ _ X31 e31 N31 J1_Z_v31 J1_O_v31 J1_V_da_v31 (One.val rfl) (One.val rfl) ⟨EOk_v31, FCk_v31, FBk_v31, Fw31⟩ ⟨ELk_v31, FDk_v31, FSk_v31, FMk_v31, EEk_v31, VEk_v31, LEk_v31, hvlk, hnck, hcpk⟩ (by rw [hPk]; omega) (by omega) (by omega) (by omega) (by omega) (by omega) (by omega) (Or.inr ⟨ck, kk, bs3, gdk, VC3_v31, hb3, nckd, g_ck⟩)
      · refine Gl.st (fun _ k => XS.icmpYes X1.here hx rfl (pc0 := 8) (pc' := 86) rfl (hb hby d75_8) rfl (flt (fun q => hc ((own_lt i len (by omega) (by omega)).mp q) : ¬ ((Int32.ofNat i) < (Int32.ofNat len)))).2.1 (by decide) (by decide) k) ?_
        show Gl p e below P (T1.setTop (mkF m 86 #[.val (.ref ob), .val (.ref da), .val (.int (0 : Int32)), .val (.int (Int32.ofNat len)), .val (.int (Int32.ofNat i)), s5, s6] []))
        have hil : i = len := by omega
        obtain ⟨fs, hr, hrun, hended, hW, hsame⟩ := X1.leave (v := none) (fun _ => rfl)
        refine ⟨_, _, X1.returnOut hx Bd.returns (hb hby d75_86) hr, hrun, hended, hPost _ _ ⟨_, _, rfl, ?_, ⟨_, rfl⟩, hW, hsame.mono (show ci ≤ 30 by omega) (show si ≤ 88 by omega)⟩⟩
        show Q75 Z ob li ed0 ke0 cap0 n9 vs0 mc0 dc cb sz rr0 mir len da kda bsd h0 n0 _ T1.heap _
        rw [e1]
        exact (by rw [← hil]; exact ⟨rfl, N1, J1_O, J1_V_da, _, _, _, _, _, _, ⟨EOk, FCk, FBk, FZk⟩, ⟨ELk, FDk, FSk, FMk, EEk, VEk, LEk, hvlk, hnck, hcpk⟩⟩)
  exact LPw len 0 ed0 ke0 cap0 n9 vs0 mc0 rr0 0 0 _ _ s₁ _ _ X0 e0 N0 Z0 O0 VDA One.u One.u HO HL hP hrr (Nat.zero_le _) (Nat.le_refl _) hns (Nat.zero_le _) (Nat.zero_le _) hck
theorem pn_0 : plainName "com/example/cotab/cotab/ChunkedBytesClearPinLaw" = true := by first | (simp [plainName, overriddenIn]; done) | decide +kernel
theorem ef_0 (m : MethodId) (x0 : Int32) (x1 : Int32) (x2 : Int32) (x3 : Int32) (x4 : Int32) : entryFrame m #[(.int x0), (.int x1), (.int x2), (.int x3), (.int x4)] maxLocals = mkF m 0 #[.val (.int x0), .val (.int x1), .val (.int x2), .val (.int x3), .val (.int x4), .unset, .unset, .unset, .unset, .unset, .unset, .unset, .unset] [] := by first | (simp [entryFrame, mkF, argsToLocals, Value.category, maxLocals]; done) | rfl
def Q0 (Z : State) (p1 : Int32) (p2 : Int32) (p3 : Int32) (p4 : Int32) (p5 : Int32) (dc : Addr) (kd : ClassId) (mir : Addr) (h0 : Heap) (n0 : Nat) (v : Option Value) (h : Heap) (L : List Loc) : Prop := v = some (.int 1) ∧ Fr n0 L
set_option maxRecDepth 65536 in
set_option maxHeartbeats 40000000 in
theorem rm0 (l : Launch) (Z : State) (a0 : Array Value) (hw : ∀ d ∈ tables_1, d.before a0 Z = true) (ws : List Jvm.Cond) (p1 : Int32) (p2 : Int32) (p3 : Int32) (p4 : Int32) (p5 : Int32) (dc : Addr) (kd : ClassId) (mir : Addr) (h0 : Heap) (n0 : Nat) (Z0 : n0 ≤ h0.size) (SD : Sta Z Z.heap "java/util/ArrayList" "DEFAULTCAPACITY_EMPTY_ELEMENTDATA" "[Ljava/lang/Object;" (.ref dc)) (ED : Exa Z Z.heap dc "[Ljava/lang/Object;") (VD : Arv Z Z.heap dc kd (.object "java/lang/Object") (0 : Int32) [] .null) (O0 : Old Z n0 h0) (MI : Mir Z "[Ljava/lang/Object;" mir) :
    MetFree l x (head1 (Jvm.Cond.code x code maxLocals ret :: ws) room_1) (fun a U => a = #[(.int p1), (.int p2), (.int p3), (.int p4), (.int p5)] ∧ Z.Warmed39 U.vm ∧ U.heap = h0) (fun _ _ _ _ _ => True) (fun _ U o U' => ∃ v L, o = .returned v ∧ Q0 Z p1 p2 p3 p4 p5 dc kd mir h0 n0 v U'.heap L ∧ FrameEnd U o U' L 88 320) := by
  refine MetFree.of_bodySF (plainFor_of_name pn_0) hisR ?_
  intro p e s m args below meth c s₁ Bd hml0 hP hK
  obtain ⟨rfl, hZ, hh⟩ := hP
  have hx := Bd.exec
  have hby := Bd.bytes
  have hml : c.maxLocals = 13 := hml0
  have hown : s.vm.findClass "com/example/cotab/cotab/ChunkedBytesClearPinLaw" = some m.cls := findClass_of_methodNamed Bd.named
  have hnm := (name_of_methodNamed Bd.named Bd.method).1
  have X0 : Stand p l e room_1 s m #[(.int p1), (.int p2), (.int p3), (.int p4), (.int p5)] below meth c s₁ [] 0 0 := Stand.of_body Bd
  have e0 : s₁.heap = h0 := by rw [← hh, Bd.state]; rfl
  have N0 := Fr.nil n0
  refine Gl.gen fun P hPost => ?_
  refine Gl.st (fun _ k => castTop (ef_0 m p1 p2 p3 p4 p5 ) k) ?_
  show Gl p e below P (s₁.setTop (mkF m 0 #[.val (.int p1), .val (.int p2), .val (.int p3), .val (.int p4), .val (.int p5), .unset, .unset, .unset, .unset, .unset, .unset, .unset, .unset] []))
  refine Gl.st (fun _ k => XS.iconst X0.here hx rfl (hb hby at_0) k) ?_
  show Gl p e below P (s₁.setTop (mkF m 1 #[.val (.int p1), .val (.int p2), .val (.int p3), .val (.int p4), .val (.int p5), .unset, .unset, .unset, .unset, .unset, .unset, .unset, .unset] [(.int (1 : Int32))]))
  refine Gl.st (fun _ k => XS.iloadN X0.here hx rfl (hb hby at_1) rfl k) ?_
  show Gl p e below P (s₁.setTop (mkF m 2 #[.val (.int p1), .val (.int p2), .val (.int p3), .val (.int p4), .val (.int p5), .unset, .unset, .unset, .unset, .unset, .unset, .unset, .unset] [(.int p1), (.int (1 : Int32))]))
  refine Gl.st (fun _ k => XS.bipush X0.here hx rfl (hb hby at_2) k) ?_
  show Gl p e below P (s₁.setTop (mkF m 4 #[.val (.int p1), .val (.int p2), .val (.int p3), .val (.int p4), .val (.int p5), .unset, .unset, .unset, .unset, .unset, .unset, .unset, .unset] [(.int (7 : Int32)), (.int p1), (.int (1 : Int32))]))
  refine Gl.st (fun _ k => XS.iand X0.here hx rfl (hb hby at_4) rfl k) ?_
  show Gl p e below P (s₁.setTop (mkF m 5 #[.val (.int p1), .val (.int p2), .val (.int p3), .val (.int p4), .val (.int p5), .unset, .unset, .unset, .unset, .unset, .unset, .unset, .unset] [(.int (p1 &&& (7 : Int32))), (.int (1 : Int32))]))
  obtain ⟨j1, hj1, ej1⟩ := own_and p1 7 (7 : Int32) rfl
  rw [show (p1 &&& (7 : Int32)) = (Int32.ofNat j1) from ej1]
  show Gl p e below P (s₁.setTop (mkF m 5 #[.val (.int p1), .val (.int p2), .val (.int p3), .val (.int p4), .val (.int p5), .unset, .unset, .unset, .unset, .unset, .unset, .unset, .unset] [(.int (Int32.ofNat j1)), (.int (1 : Int32))]))
  refine Gl.st (fun _ k => XS.iadd X0.here hx rfl (hb hby at_5) rfl k) ?_
  show Gl p e below P (s₁.setTop (mkF m 6 #[.val (.int p1), .val (.int p2), .val (.int p3), .val (.int p4), .val (.int p5), .unset, .unset, .unset, .unset, .unset, .unset, .unset, .unset] [(.int ((1 : Int32) + (Int32.ofNat j1)))]))
  rw [show ((1 : Int32) + (Int32.ofNat j1)) = (Int32.ofNat (1 + j1)) from own_add 1 j1]
  show Gl p e below P (s₁.setTop (mkF m 6 #[.val (.int p1), .val (.int p2), .val (.int p3), .val (.int p4), .val (.int p5), .unset, .unset, .unset, .unset, .unset, .unset, .unset, .unset] [(.int (Int32.ofNat (1 + j1)))]))
  obtain ⟨cb, hcb⟩ : ∃ z, z = 1 + j1 := ⟨_, rfl⟩
  rw [← hcb]
  show Gl p e below P (s₁.setTop (mkF m 6 #[.val (.int p1), .val (.int p2), .val (.int p3), .val (.int p4), .val (.int p5), .unset, .unset, .unset, .unset, .unset, .unset, .unset, .unset] [(.int (Int32.ofNat cb))]))
  have hcb1 : 1 ≤ cb := by omega
  have hcb8 : cb ≤ 8 := by omega
  refine Gl.st (fun _ k => XS.istore X0.here hx rfl (hb hby at_6) rfl (l' := #[.val (.int p1), .val (.int p2), .val (.int p3), .val (.int p4), .val (.int p5), .val (.int (Int32.ofNat cb)), .unset, .unset, .unset, .unset, .unset, .unset, .unset]) rfl k) ?_
  show Gl p e below P (s₁.setTop (mkF m 8 #[.val (.int p1), .val (.int p2), .val (.int p3), .val (.int p4), .val (.int p5), .val (.int (Int32.ofNat cb)), .unset, .unset, .unset, .unset, .unset, .unset, .unset] []))
  refine Gl.st (fun _ k => XS.iloadN X0.here hx rfl (hb hby at_8) rfl k) ?_
  show Gl p e below P (s₁.setTop (mkF m 9 #[.val (.int p1), .val (.int p2), .val (.int p3), .val (.int p4), .val (.int p5), .val (.int (Int32.ofNat cb)), .unset, .unset, .unset, .unset, .unset, .unset, .unset] [(.int p2)]))
  refine Gl.st (fun _ k => XS.bipush X0.here hx rfl (hb hby at_9) k) ?_
  show Gl p e below P (s₁.setTop (mkF m 11 #[.val (.int p1), .val (.int p2), .val (.int p3), .val (.int p4), .val (.int p5), .val (.int (Int32.ofNat cb)), .unset, .unset, .unset, .unset, .unset, .unset, .unset] [(.int (15 : Int32)), (.int p2)]))
  refine Gl.st (fun _ k => XS.iand X0.here hx rfl (hb hby at_11) rfl k) ?_
  show Gl p e below P (s₁.setTop (mkF m 12 #[.val (.int p1), .val (.int p2), .val (.int p3), .val (.int p4), .val (.int p5), .val (.int (Int32.ofNat cb)), .unset, .unset, .unset, .unset, .unset, .unset, .unset] [(.int (p2 &&& (15 : Int32)))]))
  obtain ⟨l1, hl1, el1⟩ := own_and p2 15 (15 : Int32) rfl
  rw [show (p2 &&& (15 : Int32)) = (Int32.ofNat l1) from el1]
  show Gl p e below P (s₁.setTop (mkF m 12 #[.val (.int p1), .val (.int p2), .val (.int p3), .val (.int p4), .val (.int p5), .val (.int (Int32.ofNat cb)), .unset, .unset, .unset, .unset, .unset, .unset, .unset] [(.int (Int32.ofNat l1))]))
  refine Gl.st (fun _ k => XS.istore X0.here hx rfl (hb hby at_12) rfl (l' := #[.val (.int p1), .val (.int p2), .val (.int p3), .val (.int p4), .val (.int p5), .val (.int (Int32.ofNat cb)), .val (.int (Int32.ofNat l1)), .unset, .unset, .unset, .unset, .unset, .unset]) rfl k) ?_
  show Gl p e below P (s₁.setTop (mkF m 14 #[.val (.int p1), .val (.int p2), .val (.int p3), .val (.int p4), .val (.int p5), .val (.int (Int32.ofNat cb)), .val (.int (Int32.ofNat l1)), .unset, .unset, .unset, .unset, .unset, .unset] []))
  refine Gl.st (fun _ k => XS.iloadN X0.here hx rfl (hb hby at_14) rfl k) ?_
  show Gl p e below P (s₁.setTop (mkF m 15 #[.val (.int p1), .val (.int p2), .val (.int p3), .val (.int p4), .val (.int p5), .val (.int (Int32.ofNat cb)), .val (.int (Int32.ofNat l1)), .unset, .unset, .unset, .unset, .unset, .unset] [(.int p3)]))
  refine Gl.st (fun _ k => XS.bipush X0.here hx rfl (hb hby at_15) k) ?_
  show Gl p e below P (s₁.setTop (mkF m 17 #[.val (.int p1), .val (.int p2), .val (.int p3), .val (.int p4), .val (.int p5), .val (.int (Int32.ofNat cb)), .val (.int (Int32.ofNat l1)), .unset, .unset, .unset, .unset, .unset, .unset] [(.int (15 : Int32)), (.int p3)]))
  refine Gl.st (fun _ k => XS.iand X0.here hx rfl (hb hby at_17) rfl k) ?_
  show Gl p e below P (s₁.setTop (mkF m 18 #[.val (.int p1), .val (.int p2), .val (.int p3), .val (.int p4), .val (.int p5), .val (.int (Int32.ofNat cb)), .val (.int (Int32.ofNat l1)), .unset, .unset, .unset, .unset, .unset, .unset] [(.int (p3 &&& (15 : Int32)))]))
  obtain ⟨l2, hl2, el2⟩ := own_and p3 15 (15 : Int32) rfl
  rw [show (p3 &&& (15 : Int32)) = (Int32.ofNat l2) from el2]
  show Gl p e below P (s₁.setTop (mkF m 18 #[.val (.int p1), .val (.int p2), .val (.int p3), .val (.int p4), .val (.int p5), .val (.int (Int32.ofNat cb)), .val (.int (Int32.ofNat l1)), .unset, .unset, .unset, .unset, .unset, .unset] [(.int (Int32.ofNat l2))]))
  refine Gl.st (fun _ k => XS.istore X0.here hx rfl (hb hby at_18) rfl (l' := #[.val (.int p1), .val (.int p2), .val (.int p3), .val (.int p4), .val (.int p5), .val (.int (Int32.ofNat cb)), .val (.int (Int32.ofNat l1)), .val (.int (Int32.ofNat l2)), .unset, .unset, .unset, .unset, .unset]) rfl k) ?_
  show Gl p e below P (s₁.setTop (mkF m 20 #[.val (.int p1), .val (.int p2), .val (.int p3), .val (.int p4), .val (.int p5), .val (.int (Int32.ofNat cb)), .val (.int (Int32.ofNat l1)), .val (.int (Int32.ofNat l2)), .unset, .unset, .unset, .unset, .unset] []))
  refine Gl.st (fun _ k => XS.bipush X0.here hx rfl (hb hby at_20) k) ?_
  show Gl p e below P (s₁.setTop (mkF m 22 #[.val (.int p1), .val (.int p2), .val (.int p3), .val (.int p4), .val (.int p5), .val (.int (Int32.ofNat cb)), .val (.int (Int32.ofNat l1)), .val (.int (Int32.ofNat l2)), .unset, .unset, .unset, .unset, .unset] [(.int (16 : Int32))]))
  obtain ⟨T1, h1, k1, X1, e1, E1, A1, st1⟩ := newP X0 hx hZ (hw _ (List.mem_of_getElem? (i := 0) rfl)) e0 (g := (mkF m 22 #[.val (.int p1), .val (.int p2), .val (.int p3), .val (.int p4), .val (.int p5), .val (.int (Int32.ofNat cb)), .val (.int (Int32.ofNat l1)), .val (.int (Int32.ofNat l2)), .unset, .unset, .unset, .unset, .unset] [(.int (16 : Int32))])) rfl (hb hby at_22) rfl (by decide) (cap := 16) (by decide) (by decide) (by decide) (by decide)
  obtain ⟨b1, g1⟩ : ∃ z, z = h0.size := ⟨_, rfl⟩
  rw [← g1] at A1 st1
  refine Gl.st st1 ?_
  have g_b1 : n0 ≤ b1 := Nat.le_trans Z0 (Nat.le_of_eq g1.symm)
  have Z0_v1 : n0 ≤ h1.size := Nat.le_trans Z0 E1.1
  have O0_v1 : Old Z n0 h1 := O0.ext E1
  have V_b1 : Arv Z h1 b1 k1 .byte (16 : Int32) [(.int (0 : Int32)), (.int (0 : Int32)), (.int (0 : Int32)), (.int (0 : Int32)), (.int (0 : Int32)), (.int (0 : Int32)), (.int (0 : Int32)), (.int (0 : Int32)), (.int (0 : Int32)), (.int (0 : Int32)), (.int (0 : Int32)), (.int (0 : Int32)), (.int (0 : Int32)), (.int (0 : Int32)), (.int (0 : Int32)), (.int (0 : Int32))] (.int (0 : Int32)) := (Arv.new A1 (by decide)).pad (pad_rep [] (.int (0 : Int32)) 16)
  show Gl p e below P (T1.setTop (mkF m 24 #[.val (.int p1), .val (.int p2), .val (.int p3), .val (.int p4), .val (.int p5), .val (.int (Int32.ofNat cb)), .val (.int (Int32.ofNat l1)), .val (.int (Int32.ofNat l2)), .unset, .unset, .unset, .unset, .unset] [(.ref b1)]))
  refine Gl.st (fun _ k => XS.astore X1.here hx rfl (hb hby at_24) rfl rfl (l' := #[.val (.int p1), .val (.int p2), .val (.int p3), .val (.int p4), .val (.int p5), .val (.int (Int32.ofNat cb)), .val (.int (Int32.ofNat l1)), .val (.int (Int32.ofNat l2)), .val (.ref b1), .unset, .unset, .unset, .unset]) rfl k) ?_
  show Gl p e below P (T1.setTop (mkF m 26 #[.val (.int p1), .val (.int p2), .val (.int p3), .val (.int p4), .val (.int p5), .val (.int (Int32.ofNat cb)), .val (.int (Int32.ofNat l1)), .val (.int (Int32.ofNat l2)), .val (.ref b1), .unset, .unset, .unset, .unset] []))
  refine Gl.st (fun _ k => XS.aload X1.here hx rfl (hb hby at_26) rfl rfl k) ?_
  show Gl p e below P (T1.setTop (mkF m 28 #[.val (.int p1), .val (.int p2), .val (.int p3), .val (.int p4), .val (.int p5), .val (.int (Int32.ofNat cb)), .val (.int (Int32.ofNat l1)), .val (.int (Int32.ofNat l2)), .val (.ref b1), .unset, .unset, .unset, .unset] [(.ref b1)]))
  refine Gl.st (fun _ k => XS.iconst X1.here hx rfl (hb hby at_28) k) ?_
  show Gl p e below P (T1.setTop (mkF m 29 #[.val (.int p1), .val (.int p2), .val (.int p3), .val (.int p4), .val (.int p5), .val (.int (Int32.ofNat cb)), .val (.int (Int32.ofNat l1)), .val (.int (Int32.ofNat l2)), .val (.ref b1), .unset, .unset, .unset, .unset] [(.int (0 : Int32)), (.ref b1)]))
  refine Gl.st (fun _ k => XS.iloadN X1.here hx rfl (hb hby at_29) rfl k) ?_
  show Gl p e below P (T1.setTop (mkF m 30 #[.val (.int p1), .val (.int p2), .val (.int p3), .val (.int p4), .val (.int p5), .val (.int (Int32.ofNat cb)), .val (.int (Int32.ofNat l1)), .val (.int (Int32.ofNat l2)), .val (.ref b1), .unset, .unset, .unset, .unset] [(.int p4), (.int (0 : Int32)), (.ref b1)]))
  refine Gl.st (fun _ k => XS.i2b X1.here hx rfl (hb hby at_30) rfl k) ?_
  show Gl p e below P (T1.setTop (mkF m 31 #[.val (.int p1), .val (.int p2), .val (.int p3), .val (.int p4), .val (.int p5), .val (.int (Int32.ofNat cb)), .val (.int (Int32.ofNat l1)), .val (.int (Int32.ofNat l2)), .val (.ref b1), .unset, .unset, .unset, .unset] [(.int (p4.toInt8.toInt32)), (.int (0 : Int32)), (.ref b1)]))
  obtain ⟨c2, Ar2, q2, S2, M2, H2, U2⟩ := id V_b1
  obtain ⟨T3, h3, X3, e3, W3, st3⟩ := stB X1 hx hZ e1 Ar2 (j := (0 : Int32)) (inb_of S2 ⟨(by decide : ¬ ((0 : Int32) < (0 : Int32))), (by decide : (0 : Int32) < (16 : Int32))⟩) (g := (mkF m 31 #[.val (.int p1), .val (.int p2), .val (.int p3), .val (.int p4), .val (.int p5), .val (.int (Int32.ofNat cb)), .val (.int (Int32.ofNat l1)), .val (.int (Int32.ofNat l2)), .val (.ref b1), .unset, .unset, .unset, .unset] [(.int (p4.toInt8.toInt32)), (.int (0 : Int32)), (.ref b1)])) rfl rfl (hb hby at_31)
  refine Gl.st st3 ?_
  have Z0_v3 : n0 ≤ h3.size := Nat.le_trans Z0_v1 (Keep.of_wr W3).1
  have O0_v3 : Old Z n0 h3 := O0_v1.wr W3 g_b1
  have V_b1_3 : Arv Z h3 b1 k1 .byte (16 : Int32) [(.int (nar .byte (p4.toInt8.toInt32))), (.int (0 : Int32)), (.int (0 : Int32)), (.int (0 : Int32)), (.int (0 : Int32)), (.int (0 : Int32)), (.int (0 : Int32)), (.int (0 : Int32)), (.int (0 : Int32)), (.int (0 : Int32)), (.int (0 : Int32)), (.int (0 : Int32)), (.int (0 : Int32)), (.int (0 : Int32)), (.int (0 : Int32)), (.int (0 : Int32))] (.int (0 : Int32)) := Arv.set Ar2 q2 S2 M2 H2 U2 (fits_nar_byte _) W3 0 rfl (Nat.le_of_ble_eq_true rfl)
  have N3 := Fr.snoc X3 N0 g_b1
  show Gl p e below P (T3.setTop (mkF m 32 #[.val (.int p1), .val (.int p2), .val (.int p3), .val (.int p4), .val (.int p5), .val (.int (Int32.ofNat cb)), .val (.int (Int32.ofNat l1)), .val (.int (Int32.ofNat l2)), .val (.ref b1), .unset, .unset, .unset, .unset] []))
  refine Gl.st (fun _ k => XS.aload X3.here hx rfl (hb hby at_32) rfl rfl k) ?_
  show Gl p e below P (T3.setTop (mkF m 34 #[.val (.int p1), .val (.int p2), .val (.int p3), .val (.int p4), .val (.int p5), .val (.int (Int32.ofNat cb)), .val (.int (Int32.ofNat l1)), .val (.int (Int32.ofNat l2)), .val (.ref b1), .unset, .unset, .unset, .unset] [(.ref b1)]))
  refine Gl.st (fun _ k => XS.bipush X3.here hx rfl (hb hby at_34) k) ?_
  show Gl p e below P (T3.setTop (mkF m 36 #[.val (.int p1), .val (.int p2), .val (.int p3), .val (.int p4), .val (.int p5), .val (.int (Int32.ofNat cb)), .val (.int (Int32.ofNat l1)), .val (.int (Int32.ofNat l2)), .val (.ref b1), .unset, .unset, .unset, .unset] [(.int (15 : Int32)), (.ref b1)]))
  refine Gl.st (fun _ k => XS.iloadN X3.here hx rfl (hb hby at_36) rfl k) ?_
  show Gl p e below P (T3.setTop (mkF m 37 #[.val (.int p1), .val (.int p2), .val (.int p3), .val (.int p4), .val (.int p5), .val (.int (Int32.ofNat cb)), .val (.int (Int32.ofNat l1)), .val (.int (Int32.ofNat l2)), .val (.ref b1), .unset, .unset, .unset, .unset] [(.int p4), (.int (15 : Int32)), (.ref b1)]))
  refine Gl.st (fun _ k => XS.bipush X3.here hx rfl (hb hby at_37) k) ?_
  show Gl p e below P (T3.setTop (mkF m 39 #[.val (.int p1), .val (.int p2), .val (.int p3), .val (.int p4), .val (.int p5), .val (.int (Int32.ofNat cb)), .val (.int (Int32.ofNat l1)), .val (.int (Int32.ofNat l2)), .val (.ref b1), .unset, .unset, .unset, .unset] [(.int (8 : Int32)), (.int p4), (.int (15 : Int32)), (.ref b1)]))
  refine Gl.st (fun _ k => XS.ishr X3.here hx rfl (hb hby at_39) rfl k) ?_
  show Gl p e below P (T3.setTop (mkF m 40 #[.val (.int p1), .val (.int p2), .val (.int p3), .val (.int p4), .val (.int p5), .val (.int (Int32.ofNat cb)), .val (.int (Int32.ofNat l1)), .val (.int (Int32.ofNat l2)), .val (.ref b1), .unset, .unset, .unset, .unset] [(.int (p4 >>> ((8 : Int32) &&& 31))), (.int (15 : Int32)), (.ref b1)]))
  refine Gl.st (fun _ k => XS.i2b X3.here hx rfl (hb hby at_40) rfl k) ?_
  show Gl p e below P (T3.setTop (mkF m 41 #[.val (.int p1), .val (.int p2), .val (.int p3), .val (.int p4), .val (.int p5), .val (.int (Int32.ofNat cb)), .val (.int (Int32.ofNat l1)), .val (.int (Int32.ofNat l2)), .val (.ref b1), .unset, .unset, .unset, .unset] [(.int ((p4 >>> ((8 : Int32) &&& 31)).toInt8.toInt32)), (.int (15 : Int32)), (.ref b1)]))
  obtain ⟨c4, Ar4, q4, S4, M4, H4, U4⟩ := id V_b1_3
  obtain ⟨T5, h5, X5, e5, W5, st5⟩ := stB X3 hx hZ e3 Ar4 (j := (15 : Int32)) (inb_of S4 ⟨(by decide : ¬ ((15 : Int32) < (0 : Int32))), (by decide : (15 : Int32) < (16 : Int32))⟩) (g := (mkF m 41 #[.val (.int p1), .val (.int p2), .val (.int p3), .val (.int p4), .val (.int p5), .val (.int (Int32.ofNat cb)), .val (.int (Int32.ofNat l1)), .val (.int (Int32.ofNat l2)), .val (.ref b1), .unset, .unset, .unset, .unset] [(.int ((p4 >>> ((8 : Int32) &&& 31)).toInt8.toInt32)), (.int (15 : Int32)), (.ref b1)])) rfl rfl (hb hby at_41)
  refine Gl.st st5 ?_
  have Z0_v5 : n0 ≤ h5.size := Nat.le_trans Z0_v3 (Keep.of_wr W5).1
  have O0_v5 : Old Z n0 h5 := O0_v3.wr W5 g_b1
  have V_b1_5 : Arv Z h5 b1 k1 .byte (16 : Int32) [(.int (nar .byte (p4.toInt8.toInt32))), (.int (0 : Int32)), (.int (0 : Int32)), (.int (0 : Int32)), (.int (0 : Int32)), (.int (0 : Int32)), (.int (0 : Int32)), (.int (0 : Int32)), (.int (0 : Int32)), (.int (0 : Int32)), (.int (0 : Int32)), (.int (0 : Int32)), (.int (0 : Int32)), (.int (0 : Int32)), (.int (0 : Int32)), (.int (nar .byte ((p4 >>> ((8 : Int32) &&& 31)).toInt8.toInt32)))] (.int (0 : Int32)) := Arv.set Ar4 q4 S4 M4 H4 U4 (fits_nar_byte _) W5 15 rfl (Nat.le_of_ble_eq_true rfl)
  have N5 := Fr.snoc X5 N3 g_b1
  show Gl p e below P (T5.setTop (mkF m 42 #[.val (.int p1), .val (.int p2), .val (.int p3), .val (.int p4), .val (.int p5), .val (.int (Int32.ofNat cb)), .val (.int (Int32.ofNat l1)), .val (.int (Int32.ofNat l2)), .val (.ref b1), .unset, .unset, .unset, .unset] []))
  obtain ⟨T6, h6, X6, e6, E6, A6, D6, -, st6⟩ := newO X5 hx hZ hown (hw _ (List.mem_of_getElem? (i := 1) rfl)) (hw _ (List.mem_of_getElem? (i := 2) rfl)) (hw _ (List.mem_of_getElem? (i := 3) rfl)) e5 (g := (mkF m 42 #[.val (.int p1), .val (.int p2), .val (.int p3), .val (.int p4), .val (.int p5), .val (.int (Int32.ofNat cb)), .val (.int (Int32.ofNat l1)), .val (.int (Int32.ofNat l2)), .val (.ref b1), .unset, .unset, .unset, .unset] [])) rfl (hb hby at_42) (by decide) (by decide)
  obtain ⟨b6, g6⟩ : ∃ z, z = h5.size := ⟨_, rfl⟩
  rw [← g6] at A6 D6 st6
  refine Gl.st st6 ?_
  have g_b6 : n0 ≤ b6 := Nat.le_trans Z0_v5 (Nat.le_of_eq g6.symm)
  have ne_b1_b6 : b1 ≠ b6 := Nat.ne_of_lt (Nat.lt_of_lt_of_le V_b1_5.lt (Nat.le_of_eq g6.symm))
  have Z0_v6 : n0 ≤ h6.size := Nat.le_trans Z0_v5 E6.1
  have O0_v6 : Old Z n0 h6 := O0_v5.ext E6
  have V_b1_5_v6 : Arv Z h6 b1 k1 .byte (16 : Int32) [(.int (nar .byte (p4.toInt8.toInt32))), (.int (0 : Int32)), (.int (0 : Int32)), (.int (0 : Int32)), (.int (0 : Int32)), (.int (0 : Int32)), (.int (0 : Int32)), (.int (0 : Int32)), (.int (0 : Int32)), (.int (0 : Int32)), (.int (0 : Int32)), (.int (0 : Int32)), (.int (0 : Int32)), (.int (0 : Int32)), (.int (0 : Int32)), (.int (nar .byte ((p4 >>> ((8 : Int32) &&& 31)).toInt8.toInt32)))] (.int (0 : Int32)) := V_b1_5.ext E6
  have F_chunks_b6 : Fld Z h6 b6 "com/example/cotab/cotab/ChunkedBytes" "chunks" "Ljava/util/List;" .null := D6 (Or.inr (hw _ (List.mem_of_getElem? (i := 40) rfl))) (ty := (.object "java/util/List")) (by decide)
  have F_chunkBytes_b6 : Fld Z h6 b6 "com/example/cotab/cotab/ChunkedBytes" "chunkBytes" "I" (.int (0 : Int32)) := D6 (Or.inr (hw _ (List.mem_of_getElem? (i := 42) rfl))) (ty := .int) (by decide)
  have F_size_b6 : Fld Z h6 b6 "com/example/cotab/cotab/ChunkedBytes" "size" "I" (.int (0 : Int32)) := D6 (Or.inl (hw _ (List.mem_of_getElem? (i := 64) rfl))) (ty := .int) (by decide)
  show Gl p e below P (T6.setTop (mkF m 45 #[.val (.int p1), .val (.int p2), .val (.int p3), .val (.int p4), .val (.int p5), .val (.int (Int32.ofNat cb)), .val (.int (Int32.ofNat l1)), .val (.int (Int32.ofNat l2)), .val (.ref b1), .unset, .unset, .unset, .unset] [(.ref b6)]))
  refine Gl.st (fun _ k => XS.dup X6.here hx rfl (hb hby at_45) rfl rfl k) ?_
  show Gl p e below P (T6.setTop (mkF m 46 #[.val (.int p1), .val (.int p2), .val (.int p3), .val (.int p4), .val (.int p5), .val (.int (Int32.ofNat cb)), .val (.int (Int32.ofNat l1)), .val (.int (Int32.ofNat l2)), .val (.ref b1), .unset, .unset, .unset, .unset] [(.ref b6), (.ref b6)]))
  refine Gl.st (fun _ k => XS.iload X6.here hx rfl (hb hby at_46) rfl k) ?_
  show Gl p e below P (T6.setTop (mkF m 48 #[.val (.int p1), .val (.int p2), .val (.int p3), .val (.int p4), .val (.int p5), .val (.int (Int32.ofNat cb)), .val (.int (Int32.ofNat l1)), .val (.int (Int32.ofNat l2)), .val (.ref b1), .unset, .unset, .unset, .unset] [(.int (Int32.ofNat cb)), (.ref b6), (.ref b6)]))
  obtain ⟨_, _, ⟨T7, L7, k7, n7⟩, -, X7, ⟨Lc7, hQ7, l7, y7, z7⟩, st7⟩ := X6.specialBack hx (y := (⟨"com/example/cotab/cotab/ChunkedBytes", "<init>", "(I)V"⟩ : MethodName)) rfl hown (mvT hZ (hw _ (List.mem_of_getElem? (i := 4) rfl))) (mvT hZ (hw _ (List.mem_of_getElem? (i := 5) rfl))) (mvT hZ (hw _ (List.mem_of_getElem? (i := 6) rfl))) (by decide) (backOf (W := 1) (rm44 l Z a0 hw [] b6 cb dc kd h6 n0 Z0_v6 A6 F_chunks_b6 F_chunkBytes_b6 F_size_b6 g_b6 O0_v6 SD ED VD) hZ (hw _ (List.mem_of_getElem? (i := 6) rfl)) (hw _ (List.mem_of_getElem? (i := 3) rfl)) (by decide) (by decide)) (g := (mkF m 48 #[.val (.int p1), .val (.int p2), .val (.int p3), .val (.int p4), .val (.int p5), .val (.int (Int32.ofNat cb)), .val (.int (Int32.ofNat l1)), .val (.int (Int32.ofNat l2)), .val (.ref b1), .unset, .unset, .unset, .unset] [(.int (Int32.ofNat cb)), (.ref b6), (.ref b6)])) rfl (by rw [hml]; rfl) (Steps.refl _) (a := b6) (argsL := [(.int (Int32.ofNat cb))]) (rest := [(.ref b6)]) (lenOf pd_12 rfl) rfl (by show 2 * 0 + _ ≤ _; exact Nat.le_of_eq rfl) (hb hby at_48) (fun _ _ => ⟨rfl, e6, (by decide : 2 + 1 ≤ _), (by decide : 19 + 3 ≤ _)⟩)
  dsimp only [Pt.U, Pt.locs, Pt.cells, Pt.slots] at X7 l7 y7 z7 st7 hQ7
  subst l7 y7 z7
  obtain ⟨rfl, N7q, K7, li, HO7, HL7, gi, gs7⟩ := hQ7
  have N7 := Fr.app N5 N7q
  have Z0_v7 : n0 ≤ T7.heap.size := Nat.le_trans Z0_v6 K7.1
  have O0_v7 : Old Z n0 T7.heap := O0_v6.keep K7 (allS g_b6 all0)
  have V_b1_5_v7 : Arv Z T7.heap b1 k1 .byte (16 : Int32) [(.int (nar .byte (p4.toInt8.toInt32))), (.int (0 : Int32)), (.int (0 : Int32)), (.int (0 : Int32)), (.int (0 : Int32)), (.int (0 : Int32)), (.int (0 : Int32)), (.int (0 : Int32)), (.int (0 : Int32)), (.int (0 : Int32)), (.int (0 : Int32)), (.int (0 : Int32)), (.int (0 : Int32)), (.int (0 : Int32)), (.int (0 : Int32)), (.int (nar .byte ((p4 >>> ((8 : Int32) &&& 31)).toInt8.toInt32)))] (.int (0 : Int32)) := V_b1_5_v6.keep K7 (ninS ne_b1_b6 nin0)
  have A6_v7 : Exa Z T7.heap b6 "com/example/cotab/cotab/ChunkedBytes" := A6.keep K7
  refine Gl.tr st7 ?_
  show Gl p e below P (T7.setTop (mkF m 51 #[.val (.int p1), .val (.int p2), .val (.int p3), .val (.int p4), .val (.int p5), .val (.int (Int32.ofNat cb)), .val (.int (Int32.ofNat l1)), .val (.int (Int32.ofNat l2)), .val (.ref b1), .unset, .unset, .unset, .unset] [(.ref b6)]))
  refine Gl.st (fun _ k => XS.astore X7.here hx rfl (hb hby at_51) rfl rfl (l' := #[.val (.int p1), .val (.int p2), .val (.int p3), .val (.int p4), .val (.int p5), .val (.int (Int32.ofNat cb)), .val (.int (Int32.ofNat l1)), .val (.int (Int32.ofNat l2)), .val (.ref b1), .val (.ref b6), .unset, .unset, .unset]) rfl k) ?_
  show Gl p e below P (T7.setTop (mkF m 53 #[.val (.int p1), .val (.int p2), .val (.int p3), .val (.int p4), .val (.int p5), .val (.int (Int32.ofNat cb)), .val (.int (Int32.ofNat l1)), .val (.int (Int32.ofNat l2)), .val (.ref b1), .val (.ref b6), .unset, .unset, .unset] []))
  refine Gl.st (fun _ k => XS.aload X7.here hx rfl (hb hby at_53) rfl rfl k) ?_
  show Gl p e below P (T7.setTop (mkF m 55 #[.val (.int p1), .val (.int p2), .val (.int p3), .val (.int p4), .val (.int p5), .val (.int (Int32.ofNat cb)), .val (.int (Int32.ofNat l1)), .val (.int (Int32.ofNat l2)), .val (.ref b1), .val (.ref b6), .unset, .unset, .unset] [(.ref b6)]))
  refine Gl.st (fun _ k => XS.aload X7.here hx rfl (hb hby at_55) rfl rfl k) ?_
  show Gl p e below P (T7.setTop (mkF m 57 #[.val (.int p1), .val (.int p2), .val (.int p3), .val (.int p4), .val (.int p5), .val (.int (Int32.ofNat cb)), .val (.int (Int32.ofNat l1)), .val (.int (Int32.ofNat l2)), .val (.ref b1), .val (.ref b6), .unset, .unset, .unset] [(.ref b1), (.ref b6)]))
  refine Gl.st (fun _ k => XS.iconst X7.here hx rfl (hb hby at_57) k) ?_
  show Gl p e below P (T7.setTop (mkF m 58 #[.val (.int p1), .val (.int p2), .val (.int p3), .val (.int p4), .val (.int p5), .val (.int (Int32.ofNat cb)), .val (.int (Int32.ofNat l1)), .val (.int (Int32.ofNat l2)), .val (.ref b1), .val (.ref b6), .unset, .unset, .unset] [(.int (0 : Int32)), (.ref b1), (.ref b6)]))
  refine Gl.st (fun _ k => XS.iload X7.here hx rfl (hb hby at_58) rfl k) ?_
  show Gl p e below P (T7.setTop (mkF m 60 #[.val (.int p1), .val (.int p2), .val (.int p3), .val (.int p4), .val (.int p5), .val (.int (Int32.ofNat cb)), .val (.int (Int32.ofNat l1)), .val (.int (Int32.ofNat l2)), .val (.ref b1), .val (.ref b6), .unset, .unset, .unset] [(.int (Int32.ofNat l1)), (.int (0 : Int32)), (.ref b1), (.ref b6)]))
  obtain ⟨cq8, kq8, q8a, q8b, q8c⟩ := isOf hZ rfl HO7.1
  obtain ⟨_, _, ⟨T8, L8, k8, n8⟩, -, X8, ⟨Lc8, hQ8, l8, y8, z8⟩, st8⟩ := X7.virtualBack hx (y := (⟨"com/example/cotab/cotab/ChunkedBytes", "write", "([BII)V"⟩ : MethodName)) (z := (⟨"com/example/cotab/cotab/ChunkedBytes", "write", "([BII)V"⟩ : MethodName)) hown (mvT hZ (hw _ (List.mem_of_getElem? (i := 43) rfl))) (mvT hZ (hw _ (List.mem_of_getElem? (i := 44) rfl))) (notFace_of_selects (args := #[]) (mvT hZ (hw _ (List.mem_of_getElem? (i := 46) rfl)))) (mvT hZ (hw _ (List.mem_of_getElem? (i := 46) rfl))) (mvT hZ (hw _ (List.mem_of_getElem? (i := 45) rfl))) (by decide) (backOf (W := 0) (rm75 l Z a0 hw [] b6 li dc kd 0 0 [] (0 : Int32) dc cb 0 0 mir l1 b1 k1 [(.int (nar .byte (p4.toInt8.toInt32))), (.int (0 : Int32)), (.int (0 : Int32)), (.int (0 : Int32)), (.int (0 : Int32)), (.int (0 : Int32)), (.int (0 : Int32)), (.int (0 : Int32)), (.int (0 : Int32)), (.int (0 : Int32)), (.int (0 : Int32)), (.int (0 : Int32)), (.int (0 : Int32)), (.int (0 : Int32)), (.int (0 : Int32)), (.int (nar .byte ((p4 >>> ((8 : Int32) &&& 31)).toInt8.toInt32)))] T7.heap n0 Z0_v7 HO7 HL7 (Nat.zero_mul cb) hcb1 hcb8 hcb1 hl1 (by omega) (Nat.le_refl _) (Or.inl rfl) g_b6 gi O0_v7 SD MI V_b1_5_v7) hZ (hw _ (List.mem_of_getElem? (i := 47) rfl)) (hw _ (List.mem_of_getElem? (i := 3) rfl)) (by decide) (by decide)) q8a q8c (g := (mkF m 60 #[.val (.int p1), .val (.int p2), .val (.int p3), .val (.int p4), .val (.int p5), .val (.int (Int32.ofNat cb)), .val (.int (Int32.ofNat l1)), .val (.int (Int32.ofNat l2)), .val (.ref b1), .val (.ref b6), .unset, .unset, .unset] [(.int (Int32.ofNat l1)), (.int (0 : Int32)), (.ref b1), (.ref b6)])) rfl (by rw [hml]; rfl) (Steps.refl _) (argsL := [(.ref b1), (.int (0 : Int32)), (.int (Int32.ofNat l1))]) (rest := []) (lenOf pd_13 rfl) rfl (by show 2 * 0 + _ ≤ _; exact Nat.le_of_eq rfl) (hb hby at_60) (fun _ _ => ⟨rfl, rfl, (by decide : 3 + 30 ≤ _), (by decide : 22 + 88 ≤ _)⟩)
  dsimp only [Pt.U, Pt.locs, Pt.cells, Pt.slots] at X8 l8 y8 z8 st8 hQ8
  subst l8 y8 z8
  obtain ⟨rfl, N8q, O8q, V8q, edA, keA, capA, nA, vsA, mcA, HO8, HL8⟩ := hQ8
  have N8 := Fr.app N7 N8q
  have Zq8 : n0 ≤ T8.heap.size := by rw [← O8q.1]; exact O8q.2.1
  refine Gl.tr st8 ?_
  show Gl p e below P (T8.setTop (mkF m 63 #[.val (.int p1), .val (.int p2), .val (.int p3), .val (.int p4), .val (.int p5), .val (.int (Int32.ofNat cb)), .val (.int (Int32.ofNat l1)), .val (.int (Int32.ofNat l2)), .val (.ref b1), .val (.ref b6), .unset, .unset, .unset] []))
  refine Gl.st (fun _ k => XS.aload X8.here hx rfl (hb hby at_63) rfl rfl k) ?_
  show Gl p e below P (T8.setTop (mkF m 65 #[.val (.int p1), .val (.int p2), .val (.int p3), .val (.int p4), .val (.int p5), .val (.int (Int32.ofNat cb)), .val (.int (Int32.ofNat l1)), .val (.int (Int32.ofNat l2)), .val (.ref b1), .val (.ref b6), .unset, .unset, .unset] [(.ref b6)]))
  obtain ⟨cq9, kq9, q9a, q9b, q9c⟩ := isOf hZ rfl HO8.1
  obtain ⟨_, _, ⟨T9, L9, k9, n9⟩, -, X9, ⟨Lc9, hQ9, l9, y9, z9⟩, st9⟩ := X8.virtualBack hx (y := (⟨"com/example/cotab/cotab/ChunkedBytes", "size", "()I"⟩ : MethodName)) (z := (⟨"com/example/cotab/cotab/ChunkedBytes", "size", "()I"⟩ : MethodName)) hown (mvT hZ (hw _ (List.mem_of_getElem? (i := 125) rfl))) (mvT hZ (hw _ (List.mem_of_getElem? (i := 126) rfl))) (notFace_of_selects (args := #[]) (mvT hZ (hw _ (List.mem_of_getElem? (i := 128) rfl)))) (mvT hZ (hw _ (List.mem_of_getElem? (i := 128) rfl))) (mvT hZ (hw _ (List.mem_of_getElem? (i := 127) rfl))) (by decide) (backOf (W := 0) (rm46 l Z a0 hw [] b6 (Int32.ofNat (0 + l1)) T8.heap n0 Zq8 HO8.1 HO8.2.2.2) hZ (hw _ (List.mem_of_getElem? (i := 129) rfl)) (hw _ (List.mem_of_getElem? (i := 3) rfl)) (by decide) (by decide)) q9a q9c (g := (mkF m 65 #[.val (.int p1), .val (.int p2), .val (.int p3), .val (.int p4), .val (.int p5), .val (.int (Int32.ofNat cb)), .val (.int (Int32.ofNat l1)), .val (.int (Int32.ofNat l2)), .val (.ref b1), .val (.ref b6), .unset, .unset, .unset] [(.ref b6)])) rfl (by rw [hml]; rfl) (Steps.refl _) (argsL := []) (rest := []) (lenOf pd_10 rfl) rfl (by show 2 * 0 + _ ≤ _; exact Nat.le_of_eq rfl) (hb hby at_65) (fun _ _ => ⟨rfl, rfl, (by decide : 33 + 0 ≤ _), (by decide : 110 + 0 ≤ _)⟩)
  dsimp only [Pt.U, Pt.locs, Pt.cells, Pt.slots] at X9 l9 y9 z9 st9 hQ9
  subst l9 y9 z9
  obtain ⟨rfl, N9q, e9⟩ := hQ9
  have N9 := Fr.app N8 N9q
  refine Gl.tr st9 ?_
  show Gl p e below P (T9.setTop (mkF m 68 #[.val (.int p1), .val (.int p2), .val (.int p3), .val (.int p4), .val (.int p5), .val (.int (Int32.ofNat cb)), .val (.int (Int32.ofNat l1)), .val (.int (Int32.ofNat l2)), .val (.ref b1), .val (.ref b6), .unset, .unset, .unset] [(.int (Int32.ofNat (0 + l1)))]))
  refine Gl.st (fun _ k => XS.iload X9.here hx rfl (hb hby at_68) rfl k) ?_
  show Gl p e below P (T9.setTop (mkF m 70 #[.val (.int p1), .val (.int p2), .val (.int p3), .val (.int p4), .val (.int p5), .val (.int (Int32.ofNat cb)), .val (.int (Int32.ofNat l1)), .val (.int (Int32.ofNat l2)), .val (.ref b1), .val (.ref b6), .unset, .unset, .unset] [(.int (Int32.ofNat l1)), (.int (Int32.ofNat (0 + l1)))]))
  refine Gl.st (fun _ k => XS.icmpNo X9.here hx rfl (hb hby at_70) rfl (teq (by rw [Nat.zero_add] : (Int32.ofNat (0 + l1)) = (Int32.ofNat l1))).2 k) ?_
  show Gl p e below P (T9.setTop (mkF m 73 #[.val (.int p1), .val (.int p2), .val (.int p3), .val (.int p4), .val (.int p5), .val (.int (Int32.ofNat cb)), .val (.int (Int32.ofNat l1)), .val (.int (Int32.ofNat l2)), .val (.ref b1), .val (.ref b6), .unset, .unset, .unset] []))
  refine Gl.st (fun _ k => XS.iconst X9.here hx rfl (hb hby at_73) k) ?_
  show Gl p e below P (T9.setTop (mkF m 74 #[.val (.int p1), .val (.int p2), .val (.int p3), .val (.int p4), .val (.int p5), .val (.int (Int32.ofNat cb)), .val (.int (Int32.ofNat l1)), .val (.int (Int32.ofNat l2)), .val (.ref b1), .val (.ref b6), .unset, .unset, .unset] [(.int (1 : Int32))]))
  refine Gl.st (fun _ k => XS.goto X9.here hx rfl (pc0 := 74) (pc' := 78) rfl (hb hby at_74) (by decide) (by decide) k) ?_
  show Gl p e below P (T9.setTop (mkF m 78 #[.val (.int p1), .val (.int p2), .val (.int p3), .val (.int p4), .val (.int p5), .val (.int (Int32.ofNat cb)), .val (.int (Int32.ofNat l1)), .val (.int (Int32.ofNat l2)), .val (.ref b1), .val (.ref b6), .unset, .unset, .unset] [(.int (1 : Int32))]))
  refine Gl.st (fun _ k => XS.istore X9.here hx rfl (hb hby at_78) rfl (l' := #[.val (.int p1), .val (.int p2), .val (.int p3), .val (.int p4), .val (.int p5), .val (.int (Int32.ofNat cb)), .val (.int (Int32.ofNat l1)), .val (.int (Int32.ofNat l2)), .val (.ref b1), .val (.ref b6), .val (.int (1 : Int32)), .unset, .unset]) rfl k) ?_
  show Gl p e below P (T9.setTop (mkF m 80 #[.val (.int p1), .val (.int p2), .val (.int p3), .val (.int p4), .val (.int p5), .val (.int (Int32.ofNat cb)), .val (.int (Int32.ofNat l1)), .val (.int (Int32.ofNat l2)), .val (.ref b1), .val (.ref b6), .val (.int (1 : Int32)), .unset, .unset] []))
  refine Gl.st (fun _ k => XS.aload X9.here hx rfl (hb hby at_80) rfl rfl k) ?_
  show Gl p e below P (T9.setTop (mkF m 82 #[.val (.int p1), .val (.int p2), .val (.int p3), .val (.int p4), .val (.int p5), .val (.int (Int32.ofNat cb)), .val (.int (Int32.ofNat l1)), .val (.int (Int32.ofNat l2)), .val (.ref b1), .val (.ref b6), .val (.int (1 : Int32)), .unset, .unset] [(.ref b6)]))
  obtain ⟨cq10, kq10, q10a, q10b, q10c⟩ := isOf hZ e9 HO8.1
  obtain ⟨_, _, ⟨T10, L10, k10, n10⟩, -, X10, ⟨Lc10, hQ10, l10, y10, z10⟩, st10⟩ := X9.virtualBack hx (y := (⟨"com/example/cotab/cotab/ChunkedBytes", "clear", "()V"⟩ : MethodName)) (z := (⟨"com/example/cotab/cotab/ChunkedBytes", "clear", "()V"⟩ : MethodName)) hown (mvT hZ (hw _ (List.mem_of_getElem? (i := 130) rfl))) (mvT hZ (hw _ (List.mem_of_getElem? (i := 131) rfl))) (notFace_of_selects (args := #[]) (mvT hZ (hw _ (List.mem_of_getElem? (i := 133) rfl)))) (mvT hZ (hw _ (List.mem_of_getElem? (i := 133) rfl))) (mvT hZ (hw _ (List.mem_of_getElem? (i := 132) rfl))) (by decide) (backOf (W := 0) (rm77 l Z a0 hw [] b6 li edA keA capA nA vsA mcA dc cb (0 + l1) b1 k1 [(.int (nar .byte (p4.toInt8.toInt32))), (.int (0 : Int32)), (.int (0 : Int32)), (.int (0 : Int32)), (.int (0 : Int32)), (.int (0 : Int32)), (.int (0 : Int32)), (.int (0 : Int32)), (.int (0 : Int32)), (.int (0 : Int32)), (.int (0 : Int32)), (.int (0 : Int32)), (.int (0 : Int32)), (.int (0 : Int32)), (.int (0 : Int32)), (.int (nar .byte ((p4 >>> ((8 : Int32) &&& 31)).toInt8.toInt32)))] T8.heap n0 Zq8 HO8 HL8 g_b6 gi O8q V8q) hZ (hw _ (List.mem_of_getElem? (i := 134) rfl)) (hw _ (List.mem_of_getElem? (i := 3) rfl)) (by decide) (by decide)) q10a q10c (g := (mkF m 82 #[.val (.int p1), .val (.int p2), .val (.int p3), .val (.int p4), .val (.int p5), .val (.int (Int32.ofNat cb)), .val (.int (Int32.ofNat l1)), .val (.int (Int32.ofNat l2)), .val (.ref b1), .val (.ref b6), .val (.int (1 : Int32)), .unset, .unset] [(.ref b6)])) rfl (by rw [hml]; rfl) (Steps.refl _) (argsL := []) (rest := []) (lenOf pd_0 rfl) rfl (by show 2 * 0 + _ ≤ _; exact Nat.le_of_eq rfl) (hb hby at_82) (fun _ _ => ⟨rfl, e9, (by decide : 33 + 0 ≤ _), (by decide : 110 + 0 ≤ _)⟩)
  dsimp only [Pt.U, Pt.locs, Pt.cells, Pt.slots] at X10 l10 y10 z10 st10 hQ10
  subst l10 y10 z10
  obtain ⟨rfl, N10q, O10q, V10q, vsB, mcB, HO10, HL10⟩ := hQ10
  have N10 := Fr.app N9 N10q
  have Zq10 : n0 ≤ T10.heap.size := by rw [← O10q.1]; exact O10q.2.1
  refine Gl.tr st10 ?_
  show Gl p e below P (T10.setTop (mkF m 85 #[.val (.int p1), .val (.int p2), .val (.int p3), .val (.int p4), .val (.int p5), .val (.int (Int32.ofNat cb)), .val (.int (Int32.ofNat l1)), .val (.int (Int32.ofNat l2)), .val (.ref b1), .val (.ref b6), .val (.int (1 : Int32)), .unset, .unset] []))
  refine Gl.st (fun _ k => XS.aload X10.here hx rfl (hb hby at_85) rfl rfl k) ?_
  show Gl p e below P (T10.setTop (mkF m 87 #[.val (.int p1), .val (.int p2), .val (.int p3), .val (.int p4), .val (.int p5), .val (.int (Int32.ofNat cb)), .val (.int (Int32.ofNat l1)), .val (.int (Int32.ofNat l2)), .val (.ref b1), .val (.ref b6), .val (.int (1 : Int32)), .unset, .unset] [(.ref b6)]))
  obtain ⟨cq11, kq11, q11a, q11b, q11c⟩ := isOf hZ rfl HO10.1
  obtain ⟨_, _, ⟨T11, L11, k11, n11⟩, -, X11, ⟨Lc11, hQ11, l11, y11, z11⟩, st11⟩ := X10.virtualBack hx (y := (⟨"com/example/cotab/cotab/ChunkedBytes", "size", "()I"⟩ : MethodName)) (z := (⟨"com/example/cotab/cotab/ChunkedBytes", "size", "()I"⟩ : MethodName)) hown (mvT hZ (hw _ (List.mem_of_getElem? (i := 125) rfl))) (mvT hZ (hw _ (List.mem_of_getElem? (i := 126) rfl))) (notFace_of_selects (args := #[]) (mvT hZ (hw _ (List.mem_of_getElem? (i := 128) rfl)))) (mvT hZ (hw _ (List.mem_of_getElem? (i := 128) rfl))) (mvT hZ (hw _ (List.mem_of_getElem? (i := 127) rfl))) (by decide) (backOf (W := 0) (rm46 l Z a0 hw [] b6 (Int32.ofNat 0) T10.heap n0 Zq10 HO10.1 HO10.2.2.2) hZ (hw _ (List.mem_of_getElem? (i := 129) rfl)) (hw _ (List.mem_of_getElem? (i := 3) rfl)) (by decide) (by decide)) q11a q11c (g := (mkF m 87 #[.val (.int p1), .val (.int p2), .val (.int p3), .val (.int p4), .val (.int p5), .val (.int (Int32.ofNat cb)), .val (.int (Int32.ofNat l1)), .val (.int (Int32.ofNat l2)), .val (.ref b1), .val (.ref b6), .val (.int (1 : Int32)), .unset, .unset] [(.ref b6)])) rfl (by rw [hml]; rfl) (Steps.refl _) (argsL := []) (rest := []) (lenOf pd_10 rfl) rfl (by show 2 * 0 + _ ≤ _; exact Nat.le_of_eq rfl) (hb hby at_87) (fun _ _ => ⟨rfl, rfl, (by decide : 33 + 0 ≤ _), (by decide : 110 + 0 ≤ _)⟩)
  dsimp only [Pt.U, Pt.locs, Pt.cells, Pt.slots] at X11 l11 y11 z11 st11 hQ11
  subst l11 y11 z11
  obtain ⟨rfl, N11q, e11⟩ := hQ11
  have N11 := Fr.app N10 N11q
  refine Gl.tr st11 ?_
  show Gl p e below P (T11.setTop (mkF m 90 #[.val (.int p1), .val (.int p2), .val (.int p3), .val (.int p4), .val (.int p5), .val (.int (Int32.ofNat cb)), .val (.int (Int32.ofNat l1)), .val (.int (Int32.ofNat l2)), .val (.ref b1), .val (.ref b6), .val (.int (1 : Int32)), .unset, .unset] [(.int (Int32.ofNat 0))]))
  refine Gl.st (fun _ k => XS.ifNo X11.here hx rfl (hb hby at_90) rfl ((if0 _ _).trans (teq (rfl : (Int32.ofNat 0) = (0 : Int32))).2) k) ?_
  show Gl p e below P (T11.setTop (mkF m 93 #[.val (.int p1), .val (.int p2), .val (.int p3), .val (.int p4), .val (.int p5), .val (.int (Int32.ofNat cb)), .val (.int (Int32.ofNat l1)), .val (.int (Int32.ofNat l2)), .val (.ref b1), .val (.ref b6), .val (.int (1 : Int32)), .unset, .unset] []))
  refine Gl.st (fun _ k => XS.iconst X11.here hx rfl (hb hby at_93) k) ?_
  show Gl p e below P (T11.setTop (mkF m 94 #[.val (.int p1), .val (.int p2), .val (.int p3), .val (.int p4), .val (.int p5), .val (.int (Int32.ofNat cb)), .val (.int (Int32.ofNat l1)), .val (.int (Int32.ofNat l2)), .val (.ref b1), .val (.ref b6), .val (.int (1 : Int32)), .unset, .unset] [(.int (1 : Int32))]))
  refine Gl.st (fun _ k => XS.goto X11.here hx rfl (pc0 := 94) (pc' := 98) rfl (hb hby at_94) (by decide) (by decide) k) ?_
  show Gl p e below P (T11.setTop (mkF m 98 #[.val (.int p1), .val (.int p2), .val (.int p3), .val (.int p4), .val (.int p5), .val (.int (Int32.ofNat cb)), .val (.int (Int32.ofNat l1)), .val (.int (Int32.ofNat l2)), .val (.ref b1), .val (.ref b6), .val (.int (1 : Int32)), .unset, .unset] [(.int (1 : Int32))]))
  refine Gl.st (fun _ k => XS.istore X11.here hx rfl (hb hby at_98) rfl (l' := #[.val (.int p1), .val (.int p2), .val (.int p3), .val (.int p4), .val (.int p5), .val (.int (Int32.ofNat cb)), .val (.int (Int32.ofNat l1)), .val (.int (Int32.ofNat l2)), .val (.ref b1), .val (.ref b6), .val (.int (1 : Int32)), .val (.int (1 : Int32)), .unset]) rfl k) ?_
  show Gl p e below P (T11.setTop (mkF m 100 #[.val (.int p1), .val (.int p2), .val (.int p3), .val (.int p4), .val (.int p5), .val (.int (Int32.ofNat cb)), .val (.int (Int32.ofNat l1)), .val (.int (Int32.ofNat l2)), .val (.ref b1), .val (.ref b6), .val (.int (1 : Int32)), .val (.int (1 : Int32)), .unset] []))
  refine Gl.st (fun _ k => XS.iload X11.here hx rfl (hb hby at_100) rfl k) ?_
  show Gl p e below P (T11.setTop (mkF m 102 #[.val (.int p1), .val (.int p2), .val (.int p3), .val (.int p4), .val (.int p5), .val (.int (Int32.ofNat cb)), .val (.int (Int32.ofNat l1)), .val (.int (Int32.ofNat l2)), .val (.ref b1), .val (.ref b6), .val (.int (1 : Int32)), .val (.int (1 : Int32)), .unset] [(.int p5)]))
  refine Gl.st (fun _ k => XS.iconst X11.here hx rfl (hb hby at_102) k) ?_
  show Gl p e below P (T11.setTop (mkF m 103 #[.val (.int p1), .val (.int p2), .val (.int p3), .val (.int p4), .val (.int p5), .val (.int (Int32.ofNat cb)), .val (.int (Int32.ofNat l1)), .val (.int (Int32.ofNat l2)), .val (.ref b1), .val (.ref b6), .val (.int (1 : Int32)), .val (.int (1 : Int32)), .unset] [(.int (1 : Int32)), (.int p5)]))
  refine Gl.st (fun _ k => XS.iand X11.here hx rfl (hb hby at_103) rfl k) ?_
  show Gl p e below P (T11.setTop (mkF m 104 #[.val (.int p1), .val (.int p2), .val (.int p3), .val (.int p4), .val (.int p5), .val (.int (Int32.ofNat cb)), .val (.int (Int32.ofNat l1)), .val (.int (Int32.ofNat l2)), .val (.ref b1), .val (.ref b6), .val (.int (1 : Int32)), .val (.int (1 : Int32)), .unset] [(.int (p5 &&& (1 : Int32)))]))
  by_cases hp5 : (p5 &&& (1 : Int32)) = (0 : Int32)
  · refine Gl.st (fun _ k => XS.ifYes X11.here hx rfl (pc0 := 104) (pc' := 132) rfl (hb hby at_104) rfl ((if0 _ _).trans (teq (hp5 : (p5 &&& (1 : Int32)) = (0 : Int32))).1) (by decide) (by decide) k) ?_
    show Gl p e below P (T11.setTop (mkF m 132 #[.val (.int p1), .val (.int p2), .val (.int p3), .val (.int p4), .val (.int p5), .val (.int (Int32.ofNat cb)), .val (.int (Int32.ofNat l1)), .val (.int (Int32.ofNat l2)), .val (.ref b1), .val (.ref b6), .val (.int (1 : Int32)), .val (.int (1 : Int32)), .unset] []))
    refine Gl.st (fun _ k => XS.aload X11.here hx rfl (hb hby at_132) rfl rfl k) ?_
    show Gl p e below P (T11.setTop (mkF m 134 #[.val (.int p1), .val (.int p2), .val (.int p3), .val (.int p4), .val (.int p5), .val (.int (Int32.ofNat cb)), .val (.int (Int32.ofNat l1)), .val (.int (Int32.ofNat l2)), .val (.ref b1), .val (.ref b6), .val (.int (1 : Int32)), .val (.int (1 : Int32)), .unset] [(.ref b6)]))
    refine Gl.st (fun _ k => XS.iloadN X11.here hx rfl (hb hby at_134) rfl k) ?_
    show Gl p e below P (T11.setTop (mkF m 135 #[.val (.int p1), .val (.int p2), .val (.int p3), .val (.int p4), .val (.int p5), .val (.int (Int32.ofNat cb)), .val (.int (Int32.ofNat l1)), .val (.int (Int32.ofNat l2)), .val (.ref b1), .val (.ref b6), .val (.int (1 : Int32)), .val (.int (1 : Int32)), .unset] [(.int p4), (.ref b6)]))
    obtain ⟨cq12, kq12, q12a, q12b, q12c⟩ := isOf hZ e11 HO10.1
    obtain ⟨_, _, ⟨T12, L12, k12, n12⟩, -, X12, ⟨Lc12, hQ12, l12, y12, z12⟩, st12⟩ := X11.virtualBack hx (y := (⟨"com/example/cotab/cotab/ChunkedBytes", "write", "(I)V"⟩ : MethodName)) (z := (⟨"com/example/cotab/cotab/ChunkedBytes", "write", "(I)V"⟩ : MethodName)) hown (mvT hZ (hw _ (List.mem_of_getElem? (i := 143) rfl))) (mvT hZ (hw _ (List.mem_of_getElem? (i := 144) rfl))) (notFace_of_selects (args := #[]) (mvT hZ (hw _ (List.mem_of_getElem? (i := 146) rfl)))) (mvT hZ (hw _ (List.mem_of_getElem? (i := 146) rfl))) (mvT hZ (hw _ (List.mem_of_getElem? (i := 145) rfl))) (by decide) (backOf (W := 0) (rm74 l Z a0 hw [] b6 li edA keA capA vsB mcB dc cb mir p4 b1 k1 [(.int (nar .byte (p4.toInt8.toInt32))), (.int (0 : Int32)), (.int (0 : Int32)), (.int (0 : Int32)), (.int (0 : Int32)), (.int (0 : Int32)), (.int (0 : Int32)), (.int (0 : Int32)), (.int (0 : Int32)), (.int (0 : Int32)), (.int (0 : Int32)), (.int (0 : Int32)), (.int (0 : Int32)), (.int (0 : Int32)), (.int (0 : Int32)), (.int (nar .byte ((p4 >>> ((8 : Int32) &&& 31)).toInt8.toInt32)))] T10.heap n0 Zq10 HO10 HL10 hcb1 hcb8 g_b6 gi O10q SD MI V10q) hZ (hw _ (List.mem_of_getElem? (i := 147) rfl)) (hw _ (List.mem_of_getElem? (i := 3) rfl)) (by decide) (by decide)) q12a q12c (g := (mkF m 135 #[.val (.int p1), .val (.int p2), .val (.int p3), .val (.int p4), .val (.int p5), .val (.int (Int32.ofNat cb)), .val (.int (Int32.ofNat l1)), .val (.int (Int32.ofNat l2)), .val (.ref b1), .val (.ref b6), .val (.int (1 : Int32)), .val (.int (1 : Int32)), .unset] [(.int p4), (.ref b6)])) rfl (by rw [hml]; rfl) (Steps.refl _) (argsL := [(.int p4)]) (rest := []) (lenOf pd_12 rfl) rfl (by show 2 * 0 + _ ≤ _; exact Nat.le_of_eq rfl) (hb hby at_135) (fun _ _ => ⟨rfl, e11, (by decide : 33 + 2 ≤ _), (by decide : 110 + 30 ≤ _)⟩)
    dsimp only [Pt.U, Pt.locs, Pt.cells, Pt.slots] at X12 l12 y12 z12 st12 hQ12
    subst l12 y12 z12
    obtain ⟨rfl, N12q, O12q, V12q, edD, keD, capD, vsD, mcD, ckD, kkD, bsD, HO12, HL12, gdD, VcD, hbD, neD, gcD⟩ := hQ12
    have N12 := Fr.app N11 N12q
    have Zq12 : n0 ≤ T12.heap.size := by rw [← O12q.1]; exact O12q.2.1
    refine Gl.tr st12 ?_
    show Gl p e below P (T12.setTop (mkF m 138 #[.val (.int p1), .val (.int p2), .val (.int p3), .val (.int p4), .val (.int p5), .val (.int (Int32.ofNat cb)), .val (.int (Int32.ofNat l1)), .val (.int (Int32.ofNat l2)), .val (.ref b1), .val (.ref b6), .val (.int (1 : Int32)), .val (.int (1 : Int32)), .unset] []))
    refine Gl.st (fun _ k => XS.aload X12.here hx rfl (hb hby at_138) rfl rfl k) ?_
    show Gl p e below P (T12.setTop (mkF m 140 #[.val (.int p1), .val (.int p2), .val (.int p3), .val (.int p4), .val (.int p5), .val (.int (Int32.ofNat cb)), .val (.int (Int32.ofNat l1)), .val (.int (Int32.ofNat l2)), .val (.ref b1), .val (.ref b6), .val (.int (1 : Int32)), .val (.int (1 : Int32)), .unset] [(.ref b6)]))
    refine Gl.st (fun _ k => XS.aload X12.here hx rfl (hb hby at_140) rfl rfl k) ?_
    show Gl p e below P (T12.setTop (mkF m 142 #[.val (.int p1), .val (.int p2), .val (.int p3), .val (.int p4), .val (.int p5), .val (.int (Int32.ofNat cb)), .val (.int (Int32.ofNat l1)), .val (.int (Int32.ofNat l2)), .val (.ref b1), .val (.ref b6), .val (.int (1 : Int32)), .val (.int (1 : Int32)), .unset] [(.ref b1), (.ref b6)]))
    refine Gl.st (fun _ k => XS.iconst X12.here hx rfl (hb hby at_142) k) ?_
    show Gl p e below P (T12.setTop (mkF m 143 #[.val (.int p1), .val (.int p2), .val (.int p3), .val (.int p4), .val (.int p5), .val (.int (Int32.ofNat cb)), .val (.int (Int32.ofNat l1)), .val (.int (Int32.ofNat l2)), .val (.ref b1), .val (.ref b6), .val (.int (1 : Int32)), .val (.int (1 : Int32)), .unset] [(.int (0 : Int32)), (.ref b1), (.ref b6)]))
    refine Gl.st (fun _ k => XS.iload X12.here hx rfl (hb hby at_143) rfl k) ?_
    show Gl p e below P (T12.setTop (mkF m 145 #[.val (.int p1), .val (.int p2), .val (.int p3), .val (.int p4), .val (.int p5), .val (.int (Int32.ofNat cb)), .val (.int (Int32.ofNat l1)), .val (.int (Int32.ofNat l2)), .val (.ref b1), .val (.ref b6), .val (.int (1 : Int32)), .val (.int (1 : Int32)), .unset] [(.int (Int32.ofNat l2)), (.int (0 : Int32)), (.ref b1), (.ref b6)]))
    obtain ⟨cq13, kq13, q13a, q13b, q13c⟩ := isOf hZ rfl HO12.1
    obtain ⟨_, _, ⟨T13, L13, k13, n13⟩, -, X13, ⟨Lc13, hQ13, l13, y13, z13⟩, st13⟩ := X12.virtualBack hx (y := (⟨"com/example/cotab/cotab/ChunkedBytes", "write", "([BII)V"⟩ : MethodName)) (z := (⟨"com/example/cotab/cotab/ChunkedBytes", "write", "([BII)V"⟩ : MethodName)) hown (mvT hZ (hw _ (List.mem_of_getElem? (i := 43) rfl))) (mvT hZ (hw _ (List.mem_of_getElem? (i := 44) rfl))) (notFace_of_selects (args := #[]) (mvT hZ (hw _ (List.mem_of_getElem? (i := 46) rfl)))) (mvT hZ (hw _ (List.mem_of_getElem? (i := 46) rfl))) (mvT hZ (hw _ (List.mem_of_getElem? (i := 45) rfl))) (by decide) (backOf (W := 0) (rm75 l Z a0 hw [] b6 li edD keD capD 1 vsD mcD dc cb 1 (cb - 1) mir l2 b1 k1 [(.int (nar .byte (p4.toInt8.toInt32))), (.int (0 : Int32)), (.int (0 : Int32)), (.int (0 : Int32)), (.int (0 : Int32)), (.int (0 : Int32)), (.int (0 : Int32)), (.int (0 : Int32)), (.int (0 : Int32)), (.int (0 : Int32)), (.int (0 : Int32)), (.int (0 : Int32)), (.int (0 : Int32)), (.int (0 : Int32)), (.int (0 : Int32)), (.int (nar .byte ((p4 >>> ((8 : Int32) &&& 31)).toInt8.toInt32)))] T12.heap n0 Zq12 HO12 HL12 (by omega) hcb1 hcb8 (by omega) hl2 (by omega) (Nat.le_refl _) (Or.inr ⟨ckD, kkD, bsD, gdD, VcD, hbD, neD, gcD⟩) g_b6 gi O12q SD MI V12q) hZ (hw _ (List.mem_of_getElem? (i := 47) rfl)) (hw _ (List.mem_of_getElem? (i := 3) rfl)) (by decide) (by decide)) q13a q13c (g := (mkF m 145 #[.val (.int p1), .val (.int p2), .val (.int p3), .val (.int p4), .val (.int p5), .val (.int (Int32.ofNat cb)), .val (.int (Int32.ofNat l1)), .val (.int (Int32.ofNat l2)), .val (.ref b1), .val (.ref b6), .val (.int (1 : Int32)), .val (.int (1 : Int32)), .unset] [(.int (Int32.ofNat l2)), (.int (0 : Int32)), (.ref b1), (.ref b6)])) rfl (by rw [hml]; rfl) (Steps.refl _) (argsL := [(.ref b1), (.int (0 : Int32)), (.int (Int32.ofNat l2))]) (rest := []) (lenOf pd_13 rfl) rfl (by show 2 * 0 + _ ≤ _; exact Nat.le_of_eq rfl) (hb hby at_145) (fun _ _ => ⟨rfl, rfl, (by decide : 35 + 30 ≤ _), (by decide : 140 + 88 ≤ _)⟩)
    dsimp only [Pt.U, Pt.locs, Pt.cells, Pt.slots] at X13 l13 y13 z13 st13 hQ13
    subst l13 y13 z13
    obtain ⟨rfl, N13q, O13q, V13q, edE, keE, capE, nE, vsE, mcE, HO13, HL13⟩ := hQ13
    have N13 := Fr.app N12 N13q
    have Zq13 : n0 ≤ T13.heap.size := by rw [← O13q.1]; exact O13q.2.1
    refine Gl.tr st13 ?_
    show Gl p e below P (T13.setTop (mkF m 148 #[.val (.int p1), .val (.int p2), .val (.int p3), .val (.int p4), .val (.int p5), .val (.int (Int32.ofNat cb)), .val (.int (Int32.ofNat l1)), .val (.int (Int32.ofNat l2)), .val (.ref b1), .val (.ref b6), .val (.int (1 : Int32)), .val (.int (1 : Int32)), .unset] []))
    refine Gl.st (fun _ k => XS.aload X13.here hx rfl (hb hby at_148) rfl rfl k) ?_
    show Gl p e below P (T13.setTop (mkF m 150 #[.val (.int p1), .val (.int p2), .val (.int p3), .val (.int p4), .val (.int p5), .val (.int (Int32.ofNat cb)), .val (.int (Int32.ofNat l1)), .val (.int (Int32.ofNat l2)), .val (.ref b1), .val (.ref b6), .val (.int (1 : Int32)), .val (.int (1 : Int32)), .unset] [(.ref b6)]))
    obtain ⟨cq14, kq14, q14a, q14b, q14c⟩ := isOf hZ rfl HO13.1
    obtain ⟨_, _, ⟨T14, L14, k14, n14⟩, -, X14, ⟨Lc14, hQ14, l14, y14, z14⟩, st14⟩ := X13.virtualBack hx (y := (⟨"com/example/cotab/cotab/ChunkedBytes", "size", "()I"⟩ : MethodName)) (z := (⟨"com/example/cotab/cotab/ChunkedBytes", "size", "()I"⟩ : MethodName)) hown (mvT hZ (hw _ (List.mem_of_getElem? (i := 125) rfl))) (mvT hZ (hw _ (List.mem_of_getElem? (i := 126) rfl))) (notFace_of_selects (args := #[]) (mvT hZ (hw _ (List.mem_of_getElem? (i := 128) rfl)))) (mvT hZ (hw _ (List.mem_of_getElem? (i := 128) rfl))) (mvT hZ (hw _ (List.mem_of_getElem? (i := 127) rfl))) (by decide) (backOf (W := 0) (rm46 l Z a0 hw [] b6 (Int32.ofNat (1 + l2)) T13.heap n0 Zq13 HO13.1 HO13.2.2.2) hZ (hw _ (List.mem_of_getElem? (i := 129) rfl)) (hw _ (List.mem_of_getElem? (i := 3) rfl)) (by decide) (by decide)) q14a q14c (g := (mkF m 150 #[.val (.int p1), .val (.int p2), .val (.int p3), .val (.int p4), .val (.int p5), .val (.int (Int32.ofNat cb)), .val (.int (Int32.ofNat l1)), .val (.int (Int32.ofNat l2)), .val (.ref b1), .val (.ref b6), .val (.int (1 : Int32)), .val (.int (1 : Int32)), .unset] [(.ref b6)])) rfl (by rw [hml]; rfl) (Steps.refl _) (argsL := []) (rest := []) (lenOf pd_10 rfl) rfl (by show 2 * 0 + _ ≤ _; exact Nat.le_of_eq rfl) (hb hby at_150) (fun _ _ => ⟨rfl, rfl, (by decide : 65 + 0 ≤ _), (by decide : 228 + 0 ≤ _)⟩)
    dsimp only [Pt.U, Pt.locs, Pt.cells, Pt.slots] at X14 l14 y14 z14 st14 hQ14
    subst l14 y14 z14
    obtain ⟨rfl, N14q, e14⟩ := hQ14
    have N14 := Fr.app N13 N14q
    refine Gl.tr st14 ?_
    show Gl p e below P (T14.setTop (mkF m 153 #[.val (.int p1), .val (.int p2), .val (.int p3), .val (.int p4), .val (.int p5), .val (.int (Int32.ofNat cb)), .val (.int (Int32.ofNat l1)), .val (.int (Int32.ofNat l2)), .val (.ref b1), .val (.ref b6), .val (.int (1 : Int32)), .val (.int (1 : Int32)), .unset] [(.int (Int32.ofNat (1 + l2)))]))
    refine Gl.st (fun _ k => XS.iconst X14.here hx rfl (hb hby at_153) k) ?_
    show Gl p e below P (T14.setTop (mkF m 154 #[.val (.int p1), .val (.int p2), .val (.int p3), .val (.int p4), .val (.int p5), .val (.int (Int32.ofNat cb)), .val (.int (Int32.ofNat l1)), .val (.int (Int32.ofNat l2)), .val (.ref b1), .val (.ref b6), .val (.int (1 : Int32)), .val (.int (1 : Int32)), .unset] [(.int (1 : Int32)), (.int (Int32.ofNat (1 + l2)))]))
    refine Gl.st (fun _ k => XS.iload X14.here hx rfl (hb hby at_154) rfl k) ?_
    show Gl p e below P (T14.setTop (mkF m 156 #[.val (.int p1), .val (.int p2), .val (.int p3), .val (.int p4), .val (.int p5), .val (.int (Int32.ofNat cb)), .val (.int (Int32.ofNat l1)), .val (.int (Int32.ofNat l2)), .val (.ref b1), .val (.ref b6), .val (.int (1 : Int32)), .val (.int (1 : Int32)), .unset] [(.int (Int32.ofNat l2)), (.int (1 : Int32)), (.int (Int32.ofNat (1 + l2)))]))
    refine Gl.st (fun _ k => XS.iadd X14.here hx rfl (hb hby at_156) rfl k) ?_
    show Gl p e below P (T14.setTop (mkF m 157 #[.val (.int p1), .val (.int p2), .val (.int p3), .val (.int p4), .val (.int p5), .val (.int (Int32.ofNat cb)), .val (.int (Int32.ofNat l1)), .val (.int (Int32.ofNat l2)), .val (.ref b1), .val (.ref b6), .val (.int (1 : Int32)), .val (.int (1 : Int32)), .unset] [(.int ((1 : Int32) + (Int32.ofNat l2))), (.int (Int32.ofNat (1 + l2)))]))
    rw [show ((1 : Int32) + (Int32.ofNat l2)) = (Int32.ofNat (1 + l2)) from own_add 1 l2]
    show Gl p e below P (T14.setTop (mkF m 157 #[.val (.int p1), .val (.int p2), .val (.int p3), .val (.int p4), .val (.int p5), .val (.int (Int32.ofNat cb)), .val (.int (Int32.ofNat l1)), .val (.int (Int32.ofNat l2)), .val (.ref b1), .val (.ref b6), .val (.int (1 : Int32)), .val (.int (1 : Int32)), .unset] [(.int (Int32.ofNat (1 + l2))), (.int (Int32.ofNat (1 + l2)))]))
    refine Gl.st (fun _ k => XS.icmpNo X14.here hx rfl (hb hby at_157) rfl (teq (rfl : (Int32.ofNat (1 + l2)) = (Int32.ofNat (1 + l2)))).2 k) ?_
    show Gl p e below P (T14.setTop (mkF m 160 #[.val (.int p1), .val (.int p2), .val (.int p3), .val (.int p4), .val (.int p5), .val (.int (Int32.ofNat cb)), .val (.int (Int32.ofNat l1)), .val (.int (Int32.ofNat l2)), .val (.ref b1), .val (.ref b6), .val (.int (1 : Int32)), .val (.int (1 : Int32)), .unset] []))
    refine Gl.st (fun _ k => XS.iconst X14.here hx rfl (hb hby at_160) k) ?_
    show Gl p e below P (T14.setTop (mkF m 161 #[.val (.int p1), .val (.int p2), .val (.int p3), .val (.int p4), .val (.int p5), .val (.int (Int32.ofNat cb)), .val (.int (Int32.ofNat l1)), .val (.int (Int32.ofNat l2)), .val (.ref b1), .val (.ref b6), .val (.int (1 : Int32)), .val (.int (1 : Int32)), .unset] [(.int (1 : Int32))]))
    refine Gl.st (fun _ k => XS.goto X14.here hx rfl (pc0 := 161) (pc' := 165) rfl (hb hby at_161) (by decide) (by decide) k) ?_
    show Gl p e below P (T14.setTop (mkF m 165 #[.val (.int p1), .val (.int p2), .val (.int p3), .val (.int p4), .val (.int p5), .val (.int (Int32.ofNat cb)), .val (.int (Int32.ofNat l1)), .val (.int (Int32.ofNat l2)), .val (.ref b1), .val (.ref b6), .val (.int (1 : Int32)), .val (.int (1 : Int32)), .unset] [(.int (1 : Int32))]))
    refine Gl.st (fun _ k => XS.istore X14.here hx rfl (hb hby at_165) rfl (l' := #[.val (.int p1), .val (.int p2), .val (.int p3), .val (.int p4), .val (.int p5), .val (.int (Int32.ofNat cb)), .val (.int (Int32.ofNat l1)), .val (.int (Int32.ofNat l2)), .val (.ref b1), .val (.ref b6), .val (.int (1 : Int32)), .val (.int (1 : Int32)), .val (.int (1 : Int32))]) rfl k) ?_
    show Gl p e below P (T14.setTop (mkF m 167 #[.val (.int p1), .val (.int p2), .val (.int p3), .val (.int p4), .val (.int p5), .val (.int (Int32.ofNat cb)), .val (.int (Int32.ofNat l1)), .val (.int (Int32.ofNat l2)), .val (.ref b1), .val (.ref b6), .val (.int (1 : Int32)), .val (.int (1 : Int32)), .val (.int (1 : Int32))] []))
    refine Gl.st (fun _ k => XS.iload X14.here hx rfl (hb hby at_167) rfl k) ?_
    show Gl p e below P (T14.setTop (mkF m 169 #[.val (.int p1), .val (.int p2), .val (.int p3), .val (.int p4), .val (.int p5), .val (.int (Int32.ofNat cb)), .val (.int (Int32.ofNat l1)), .val (.int (Int32.ofNat l2)), .val (.ref b1), .val (.ref b6), .val (.int (1 : Int32)), .val (.int (1 : Int32)), .val (.int (1 : Int32))] [(.int (1 : Int32))]))
    refine Gl.st (fun _ k => XS.ifNo X14.here hx rfl (hb hby at_169) rfl ((if0 _ _).trans (feq (by decide : ¬ ((1 : Int32) = (0 : Int32)))).1) k) ?_
    show Gl p e below P (T14.setTop (mkF m 172 #[.val (.int p1), .val (.int p2), .val (.int p3), .val (.int p4), .val (.int p5), .val (.int (Int32.ofNat cb)), .val (.int (Int32.ofNat l1)), .val (.int (Int32.ofNat l2)), .val (.ref b1), .val (.ref b6), .val (.int (1 : Int32)), .val (.int (1 : Int32)), .val (.int (1 : Int32))] []))
    refine Gl.st (fun _ k => XS.iload X14.here hx rfl (hb hby at_172) rfl k) ?_
    show Gl p e below P (T14.setTop (mkF m 174 #[.val (.int p1), .val (.int p2), .val (.int p3), .val (.int p4), .val (.int p5), .val (.int (Int32.ofNat cb)), .val (.int (Int32.ofNat l1)), .val (.int (Int32.ofNat l2)), .val (.ref b1), .val (.ref b6), .val (.int (1 : Int32)), .val (.int (1 : Int32)), .val (.int (1 : Int32))] [(.int (1 : Int32))]))
    refine Gl.st (fun _ k => XS.ifNo X14.here hx rfl (hb hby at_174) rfl ((if0 _ _).trans (feq (by decide : ¬ ((1 : Int32) = (0 : Int32)))).1) k) ?_
    show Gl p e below P (T14.setTop (mkF m 177 #[.val (.int p1), .val (.int p2), .val (.int p3), .val (.int p4), .val (.int p5), .val (.int (Int32.ofNat cb)), .val (.int (Int32.ofNat l1)), .val (.int (Int32.ofNat l2)), .val (.ref b1), .val (.ref b6), .val (.int (1 : Int32)), .val (.int (1 : Int32)), .val (.int (1 : Int32))] []))
    refine Gl.st (fun _ k => XS.iload X14.here hx rfl (hb hby at_177) rfl k) ?_
    show Gl p e below P (T14.setTop (mkF m 179 #[.val (.int p1), .val (.int p2), .val (.int p3), .val (.int p4), .val (.int p5), .val (.int (Int32.ofNat cb)), .val (.int (Int32.ofNat l1)), .val (.int (Int32.ofNat l2)), .val (.ref b1), .val (.ref b6), .val (.int (1 : Int32)), .val (.int (1 : Int32)), .val (.int (1 : Int32))] [(.int (1 : Int32))]))
    refine Gl.st (fun _ k => XS.ifNo X14.here hx rfl (hb hby at_179) rfl ((if0 _ _).trans (feq (by decide : ¬ ((1 : Int32) = (0 : Int32)))).1) k) ?_
    show Gl p e below P (T14.setTop (mkF m 182 #[.val (.int p1), .val (.int p2), .val (.int p3), .val (.int p4), .val (.int p5), .val (.int (Int32.ofNat cb)), .val (.int (Int32.ofNat l1)), .val (.int (Int32.ofNat l2)), .val (.ref b1), .val (.ref b6), .val (.int (1 : Int32)), .val (.int (1 : Int32)), .val (.int (1 : Int32))] []))
    refine Gl.st (fun _ k => XS.iconst X14.here hx rfl (hb hby at_182) k) ?_
    show Gl p e below P (T14.setTop (mkF m 183 #[.val (.int p1), .val (.int p2), .val (.int p3), .val (.int p4), .val (.int p5), .val (.int (Int32.ofNat cb)), .val (.int (Int32.ofNat l1)), .val (.int (Int32.ofNat l2)), .val (.ref b1), .val (.ref b6), .val (.int (1 : Int32)), .val (.int (1 : Int32)), .val (.int (1 : Int32))] [(.int (1 : Int32))]))
    refine Gl.st (fun _ k => XS.goto X14.here hx rfl (pc0 := 183) (pc' := 187) rfl (hb hby at_183) (by decide) (by decide) k) ?_
    show Gl p e below P (T14.setTop (mkF m 187 #[.val (.int p1), .val (.int p2), .val (.int p3), .val (.int p4), .val (.int p5), .val (.int (Int32.ofNat cb)), .val (.int (Int32.ofNat l1)), .val (.int (Int32.ofNat l2)), .val (.ref b1), .val (.ref b6), .val (.int (1 : Int32)), .val (.int (1 : Int32)), .val (.int (1 : Int32))] [(.int (1 : Int32))]))
    obtain ⟨fs, hr, hrun, hended, hW, hsame⟩ := X14.leave (v := some (.int (1 : Int32))) (fun h => by rw [Bd.returns] at h; cases h)
    refine ⟨_, _, retN X14 hx (t := .boolean) Bd.returns (by simp) (hb hby at_187) hr, hrun, hended, hPost _ _ ⟨_, _, rfl, ?_, ⟨_, rfl⟩, hW, hsame.mono (by decide) (by decide)⟩⟩
    show Q0 Z p1 p2 p3 p4 p5 dc kd mir h0 n0 _ T14.heap _
    rw [e14]
    exact ⟨rfl, N14⟩
  · refine Gl.st (fun _ k => XS.ifNo X11.here hx rfl (hb hby at_104) rfl ((if0 _ _).trans (feq (hp5 : ¬ ((p5 &&& (1 : Int32)) = (0 : Int32)))).1) k) ?_
    show Gl p e below P (T11.setTop (mkF m 107 #[.val (.int p1), .val (.int p2), .val (.int p3), .val (.int p4), .val (.int p5), .val (.int (Int32.ofNat cb)), .val (.int (Int32.ofNat l1)), .val (.int (Int32.ofNat l2)), .val (.ref b1), .val (.ref b6), .val (.int (1 : Int32)), .val (.int (1 : Int32)), .unset] []))
    refine Gl.st (fun _ k => XS.aload X11.here hx rfl (hb hby at_107) rfl rfl k) ?_
    show Gl p e below P (T11.setTop (mkF m 109 #[.val (.int p1), .val (.int p2), .val (.int p3), .val (.int p4), .val (.int p5), .val (.int (Int32.ofNat cb)), .val (.int (Int32.ofNat l1)), .val (.int (Int32.ofNat l2)), .val (.ref b1), .val (.ref b6), .val (.int (1 : Int32)), .val (.int (1 : Int32)), .unset] [(.ref b6)]))
    obtain ⟨cq15, kq15, q15a, q15b, q15c⟩ := isOf hZ e11 HO10.1
    obtain ⟨_, _, ⟨T15, L15, k15, n15⟩, -, X15, ⟨Lc15, hQ15, l15, y15, z15⟩, st15⟩ := X11.virtualBack hx (y := (⟨"com/example/cotab/cotab/ChunkedBytes", "clear", "()V"⟩ : MethodName)) (z := (⟨"com/example/cotab/cotab/ChunkedBytes", "clear", "()V"⟩ : MethodName)) hown (mvT hZ (hw _ (List.mem_of_getElem? (i := 130) rfl))) (mvT hZ (hw _ (List.mem_of_getElem? (i := 131) rfl))) (notFace_of_selects (args := #[]) (mvT hZ (hw _ (List.mem_of_getElem? (i := 133) rfl)))) (mvT hZ (hw _ (List.mem_of_getElem? (i := 133) rfl))) (mvT hZ (hw _ (List.mem_of_getElem? (i := 132) rfl))) (by decide) (backOf (W := 0) (rm77 l Z a0 hw [] b6 li edA keA capA 0 vsB mcB dc cb 0 b1 k1 [(.int (nar .byte (p4.toInt8.toInt32))), (.int (0 : Int32)), (.int (0 : Int32)), (.int (0 : Int32)), (.int (0 : Int32)), (.int (0 : Int32)), (.int (0 : Int32)), (.int (0 : Int32)), (.int (0 : Int32)), (.int (0 : Int32)), (.int (0 : Int32)), (.int (0 : Int32)), (.int (0 : Int32)), (.int (0 : Int32)), (.int (0 : Int32)), (.int (nar .byte ((p4 >>> ((8 : Int32) &&& 31)).toInt8.toInt32)))] T10.heap n0 Zq10 HO10 HL10 g_b6 gi O10q V10q) hZ (hw _ (List.mem_of_getElem? (i := 134) rfl)) (hw _ (List.mem_of_getElem? (i := 3) rfl)) (by decide) (by decide)) q15a q15c (g := (mkF m 109 #[.val (.int p1), .val (.int p2), .val (.int p3), .val (.int p4), .val (.int p5), .val (.int (Int32.ofNat cb)), .val (.int (Int32.ofNat l1)), .val (.int (Int32.ofNat l2)), .val (.ref b1), .val (.ref b6), .val (.int (1 : Int32)), .val (.int (1 : Int32)), .unset] [(.ref b6)])) rfl (by rw [hml]; rfl) (Steps.refl _) (argsL := []) (rest := []) (lenOf pd_0 rfl) rfl (by show 2 * 0 + _ ≤ _; exact Nat.le_of_eq rfl) (hb hby at_109) (fun _ _ => ⟨rfl, e11, (by decide : 33 + 0 ≤ _), (by decide : 110 + 0 ≤ _)⟩)
    dsimp only [Pt.U, Pt.locs, Pt.cells, Pt.slots] at X15 l15 y15 z15 st15 hQ15
    subst l15 y15 z15
    obtain ⟨rfl, N15q, O15q, V15q, vsC, mcC, HO15, HL15⟩ := hQ15
    have N15 := Fr.app N11 N15q
    have Zq15 : n0 ≤ T15.heap.size := by rw [← O15q.1]; exact O15q.2.1
    refine Gl.tr st15 ?_
    show Gl p e below P (T15.setTop (mkF m 112 #[.val (.int p1), .val (.int p2), .val (.int p3), .val (.int p4), .val (.int p5), .val (.int (Int32.ofNat cb)), .val (.int (Int32.ofNat l1)), .val (.int (Int32.ofNat l2)), .val (.ref b1), .val (.ref b6), .val (.int (1 : Int32)), .val (.int (1 : Int32)), .unset] []))
    refine Gl.st (fun _ k => XS.iload X15.here hx rfl (hb hby at_112) rfl k) ?_
    show Gl p e below P (T15.setTop (mkF m 114 #[.val (.int p1), .val (.int p2), .val (.int p3), .val (.int p4), .val (.int p5), .val (.int (Int32.ofNat cb)), .val (.int (Int32.ofNat l1)), .val (.int (Int32.ofNat l2)), .val (.ref b1), .val (.ref b6), .val (.int (1 : Int32)), .val (.int (1 : Int32)), .unset] [(.int (1 : Int32))]))
    refine Gl.st (fun _ k => XS.ifNo X15.here hx rfl (hb hby at_114) rfl ((if0 _ _).trans (feq (by decide : ¬ ((1 : Int32) = (0 : Int32)))).1) k) ?_
    show Gl p e below P (T15.setTop (mkF m 117 #[.val (.int p1), .val (.int p2), .val (.int p3), .val (.int p4), .val (.int p5), .val (.int (Int32.ofNat cb)), .val (.int (Int32.ofNat l1)), .val (.int (Int32.ofNat l2)), .val (.ref b1), .val (.ref b6), .val (.int (1 : Int32)), .val (.int (1 : Int32)), .unset] []))
    refine Gl.st (fun _ k => XS.aload X15.here hx rfl (hb hby at_117) rfl rfl k) ?_
    show Gl p e below P (T15.setTop (mkF m 119 #[.val (.int p1), .val (.int p2), .val (.int p3), .val (.int p4), .val (.int p5), .val (.int (Int32.ofNat cb)), .val (.int (Int32.ofNat l1)), .val (.int (Int32.ofNat l2)), .val (.ref b1), .val (.ref b6), .val (.int (1 : Int32)), .val (.int (1 : Int32)), .unset] [(.ref b6)]))
    obtain ⟨cq16, kq16, q16a, q16b, q16c⟩ := isOf hZ rfl HO15.1
    obtain ⟨_, _, ⟨T16, L16, k16, n16⟩, -, X16, ⟨Lc16, hQ16, l16, y16, z16⟩, st16⟩ := X15.virtualBack hx (y := (⟨"com/example/cotab/cotab/ChunkedBytes", "size", "()I"⟩ : MethodName)) (z := (⟨"com/example/cotab/cotab/ChunkedBytes", "size", "()I"⟩ : MethodName)) hown (mvT hZ (hw _ (List.mem_of_getElem? (i := 125) rfl))) (mvT hZ (hw _ (List.mem_of_getElem? (i := 126) rfl))) (notFace_of_selects (args := #[]) (mvT hZ (hw _ (List.mem_of_getElem? (i := 128) rfl)))) (mvT hZ (hw _ (List.mem_of_getElem? (i := 128) rfl))) (mvT hZ (hw _ (List.mem_of_getElem? (i := 127) rfl))) (by decide) (backOf (W := 0) (rm46 l Z a0 hw [] b6 (Int32.ofNat 0) T15.heap n0 Zq15 HO15.1 HO15.2.2.2) hZ (hw _ (List.mem_of_getElem? (i := 129) rfl)) (hw _ (List.mem_of_getElem? (i := 3) rfl)) (by decide) (by decide)) q16a q16c (g := (mkF m 119 #[.val (.int p1), .val (.int p2), .val (.int p3), .val (.int p4), .val (.int p5), .val (.int (Int32.ofNat cb)), .val (.int (Int32.ofNat l1)), .val (.int (Int32.ofNat l2)), .val (.ref b1), .val (.ref b6), .val (.int (1 : Int32)), .val (.int (1 : Int32)), .unset] [(.ref b6)])) rfl (by rw [hml]; rfl) (Steps.refl _) (argsL := []) (rest := []) (lenOf pd_10 rfl) rfl (by show 2 * 0 + _ ≤ _; exact Nat.le_of_eq rfl) (hb hby at_119) (fun _ _ => ⟨rfl, rfl, (by decide : 33 + 0 ≤ _), (by decide : 110 + 0 ≤ _)⟩)
    dsimp only [Pt.U, Pt.locs, Pt.cells, Pt.slots] at X16 l16 y16 z16 st16 hQ16
    subst l16 y16 z16
    obtain ⟨rfl, N16q, e16⟩ := hQ16
    have N16 := Fr.app N15 N16q
    refine Gl.tr st16 ?_
    show Gl p e below P (T16.setTop (mkF m 122 #[.val (.int p1), .val (.int p2), .val (.int p3), .val (.int p4), .val (.int p5), .val (.int (Int32.ofNat cb)), .val (.int (Int32.ofNat l1)), .val (.int (Int32.ofNat l2)), .val (.ref b1), .val (.ref b6), .val (.int (1 : Int32)), .val (.int (1 : Int32)), .unset] [(.int (Int32.ofNat 0))]))
    refine Gl.st (fun _ k => XS.ifNo X16.here hx rfl (hb hby at_122) rfl ((if0 _ _).trans (teq (rfl : (Int32.ofNat 0) = (0 : Int32))).2) k) ?_
    show Gl p e below P (T16.setTop (mkF m 125 #[.val (.int p1), .val (.int p2), .val (.int p3), .val (.int p4), .val (.int p5), .val (.int (Int32.ofNat cb)), .val (.int (Int32.ofNat l1)), .val (.int (Int32.ofNat l2)), .val (.ref b1), .val (.ref b6), .val (.int (1 : Int32)), .val (.int (1 : Int32)), .unset] []))
    refine Gl.st (fun _ k => XS.iconst X16.here hx rfl (hb hby at_125) k) ?_
    show Gl p e below P (T16.setTop (mkF m 126 #[.val (.int p1), .val (.int p2), .val (.int p3), .val (.int p4), .val (.int p5), .val (.int (Int32.ofNat cb)), .val (.int (Int32.ofNat l1)), .val (.int (Int32.ofNat l2)), .val (.ref b1), .val (.ref b6), .val (.int (1 : Int32)), .val (.int (1 : Int32)), .unset] [(.int (1 : Int32))]))
    refine Gl.st (fun _ k => XS.goto X16.here hx rfl (pc0 := 126) (pc' := 130) rfl (hb hby at_126) (by decide) (by decide) k) ?_
    show Gl p e below P (T16.setTop (mkF m 130 #[.val (.int p1), .val (.int p2), .val (.int p3), .val (.int p4), .val (.int p5), .val (.int (Int32.ofNat cb)), .val (.int (Int32.ofNat l1)), .val (.int (Int32.ofNat l2)), .val (.ref b1), .val (.ref b6), .val (.int (1 : Int32)), .val (.int (1 : Int32)), .unset] [(.int (1 : Int32))]))
    refine Gl.st (fun _ k => XS.istore X16.here hx rfl (hb hby at_130) rfl (l' := #[.val (.int p1), .val (.int p2), .val (.int p3), .val (.int p4), .val (.int p5), .val (.int (Int32.ofNat cb)), .val (.int (Int32.ofNat l1)), .val (.int (Int32.ofNat l2)), .val (.ref b1), .val (.ref b6), .val (.int (1 : Int32)), .val (.int (1 : Int32)), .unset]) rfl k) ?_
    show Gl p e below P (T16.setTop (mkF m 132 #[.val (.int p1), .val (.int p2), .val (.int p3), .val (.int p4), .val (.int p5), .val (.int (Int32.ofNat cb)), .val (.int (Int32.ofNat l1)), .val (.int (Int32.ofNat l2)), .val (.ref b1), .val (.ref b6), .val (.int (1 : Int32)), .val (.int (1 : Int32)), .unset] []))
    refine Gl.st (fun _ k => XS.aload X16.here hx rfl (hb hby at_132) rfl rfl k) ?_
    show Gl p e below P (T16.setTop (mkF m 134 #[.val (.int p1), .val (.int p2), .val (.int p3), .val (.int p4), .val (.int p5), .val (.int (Int32.ofNat cb)), .val (.int (Int32.ofNat l1)), .val (.int (Int32.ofNat l2)), .val (.ref b1), .val (.ref b6), .val (.int (1 : Int32)), .val (.int (1 : Int32)), .unset] [(.ref b6)]))
    refine Gl.st (fun _ k => XS.iloadN X16.here hx rfl (hb hby at_134) rfl k) ?_
    show Gl p e below P (T16.setTop (mkF m 135 #[.val (.int p1), .val (.int p2), .val (.int p3), .val (.int p4), .val (.int p5), .val (.int (Int32.ofNat cb)), .val (.int (Int32.ofNat l1)), .val (.int (Int32.ofNat l2)), .val (.ref b1), .val (.ref b6), .val (.int (1 : Int32)), .val (.int (1 : Int32)), .unset] [(.int p4), (.ref b6)]))
    obtain ⟨cq17, kq17, q17a, q17b, q17c⟩ := isOf hZ e16 HO15.1
    obtain ⟨_, _, ⟨T17, L17, k17, n17⟩, -, X17, ⟨Lc17, hQ17, l17, y17, z17⟩, st17⟩ := X16.virtualBack hx (y := (⟨"com/example/cotab/cotab/ChunkedBytes", "write", "(I)V"⟩ : MethodName)) (z := (⟨"com/example/cotab/cotab/ChunkedBytes", "write", "(I)V"⟩ : MethodName)) hown (mvT hZ (hw _ (List.mem_of_getElem? (i := 143) rfl))) (mvT hZ (hw _ (List.mem_of_getElem? (i := 144) rfl))) (notFace_of_selects (args := #[]) (mvT hZ (hw _ (List.mem_of_getElem? (i := 146) rfl)))) (mvT hZ (hw _ (List.mem_of_getElem? (i := 146) rfl))) (mvT hZ (hw _ (List.mem_of_getElem? (i := 145) rfl))) (by decide) (backOf (W := 0) (rm74 l Z a0 hw [] b6 li edA keA capA vsC mcC dc cb mir p4 b1 k1 [(.int (nar .byte (p4.toInt8.toInt32))), (.int (0 : Int32)), (.int (0 : Int32)), (.int (0 : Int32)), (.int (0 : Int32)), (.int (0 : Int32)), (.int (0 : Int32)), (.int (0 : Int32)), (.int (0 : Int32)), (.int (0 : Int32)), (.int (0 : Int32)), (.int (0 : Int32)), (.int (0 : Int32)), (.int (0 : Int32)), (.int (0 : Int32)), (.int (nar .byte ((p4 >>> ((8 : Int32) &&& 31)).toInt8.toInt32)))] T15.heap n0 Zq15 HO15 HL15 hcb1 hcb8 g_b6 gi O15q SD MI V15q) hZ (hw _ (List.mem_of_getElem? (i := 147) rfl)) (hw _ (List.mem_of_getElem? (i := 3) rfl)) (by decide) (by decide)) q17a q17c (g := (mkF m 135 #[.val (.int p1), .val (.int p2), .val (.int p3), .val (.int p4), .val (.int p5), .val (.int (Int32.ofNat cb)), .val (.int (Int32.ofNat l1)), .val (.int (Int32.ofNat l2)), .val (.ref b1), .val (.ref b6), .val (.int (1 : Int32)), .val (.int (1 : Int32)), .unset] [(.int p4), (.ref b6)])) rfl (by rw [hml]; rfl) (Steps.refl _) (argsL := [(.int p4)]) (rest := []) (lenOf pd_12 rfl) rfl (by show 2 * 0 + _ ≤ _; exact Nat.le_of_eq rfl) (hb hby at_135) (fun _ _ => ⟨rfl, e16, (by decide : 33 + 2 ≤ _), (by decide : 110 + 30 ≤ _)⟩)
    dsimp only [Pt.U, Pt.locs, Pt.cells, Pt.slots] at X17 l17 y17 z17 st17 hQ17
    subst l17 y17 z17
    obtain ⟨rfl, N17q, O17q, V17q, edD, keD, capD, vsD, mcD, ckD, kkD, bsD, HO17, HL17, gdD, VcD, hbD, neD, gcD⟩ := hQ17
    have N17 := Fr.app N16 N17q
    have Zq17 : n0 ≤ T17.heap.size := by rw [← O17q.1]; exact O17q.2.1
    refine Gl.tr st17 ?_
    show Gl p e below P (T17.setTop (mkF m 138 #[.val (.int p1), .val (.int p2), .val (.int p3), .val (.int p4), .val (.int p5), .val (.int (Int32.ofNat cb)), .val (.int (Int32.ofNat l1)), .val (.int (Int32.ofNat l2)), .val (.ref b1), .val (.ref b6), .val (.int (1 : Int32)), .val (.int (1 : Int32)), .unset] []))
    refine Gl.st (fun _ k => XS.aload X17.here hx rfl (hb hby at_138) rfl rfl k) ?_
    show Gl p e below P (T17.setTop (mkF m 140 #[.val (.int p1), .val (.int p2), .val (.int p3), .val (.int p4), .val (.int p5), .val (.int (Int32.ofNat cb)), .val (.int (Int32.ofNat l1)), .val (.int (Int32.ofNat l2)), .val (.ref b1), .val (.ref b6), .val (.int (1 : Int32)), .val (.int (1 : Int32)), .unset] [(.ref b6)]))
    refine Gl.st (fun _ k => XS.aload X17.here hx rfl (hb hby at_140) rfl rfl k) ?_
    show Gl p e below P (T17.setTop (mkF m 142 #[.val (.int p1), .val (.int p2), .val (.int p3), .val (.int p4), .val (.int p5), .val (.int (Int32.ofNat cb)), .val (.int (Int32.ofNat l1)), .val (.int (Int32.ofNat l2)), .val (.ref b1), .val (.ref b6), .val (.int (1 : Int32)), .val (.int (1 : Int32)), .unset] [(.ref b1), (.ref b6)]))
    refine Gl.st (fun _ k => XS.iconst X17.here hx rfl (hb hby at_142) k) ?_
    show Gl p e below P (T17.setTop (mkF m 143 #[.val (.int p1), .val (.int p2), .val (.int p3), .val (.int p4), .val (.int p5), .val (.int (Int32.ofNat cb)), .val (.int (Int32.ofNat l1)), .val (.int (Int32.ofNat l2)), .val (.ref b1), .val (.ref b6), .val (.int (1 : Int32)), .val (.int (1 : Int32)), .unset] [(.int (0 : Int32)), (.ref b1), (.ref b6)]))
    refine Gl.st (fun _ k => XS.iload X17.here hx rfl (hb hby at_143) rfl k) ?_
    show Gl p e below P (T17.setTop (mkF m 145 #[.val (.int p1), .val (.int p2), .val (.int p3), .val (.int p4), .val (.int p5), .val (.int (Int32.ofNat cb)), .val (.int (Int32.ofNat l1)), .val (.int (Int32.ofNat l2)), .val (.ref b1), .val (.ref b6), .val (.int (1 : Int32)), .val (.int (1 : Int32)), .unset] [(.int (Int32.ofNat l2)), (.int (0 : Int32)), (.ref b1), (.ref b6)]))
    obtain ⟨cq18, kq18, q18a, q18b, q18c⟩ := isOf hZ rfl HO17.1
    obtain ⟨_, _, ⟨T18, L18, k18, n18⟩, -, X18, ⟨Lc18, hQ18, l18, y18, z18⟩, st18⟩ := X17.virtualBack hx (y := (⟨"com/example/cotab/cotab/ChunkedBytes", "write", "([BII)V"⟩ : MethodName)) (z := (⟨"com/example/cotab/cotab/ChunkedBytes", "write", "([BII)V"⟩ : MethodName)) hown (mvT hZ (hw _ (List.mem_of_getElem? (i := 43) rfl))) (mvT hZ (hw _ (List.mem_of_getElem? (i := 44) rfl))) (notFace_of_selects (args := #[]) (mvT hZ (hw _ (List.mem_of_getElem? (i := 46) rfl)))) (mvT hZ (hw _ (List.mem_of_getElem? (i := 46) rfl))) (mvT hZ (hw _ (List.mem_of_getElem? (i := 45) rfl))) (by decide) (backOf (W := 0) (rm75 l Z a0 hw [] b6 li edD keD capD 1 vsD mcD dc cb 1 (cb - 1) mir l2 b1 k1 [(.int (nar .byte (p4.toInt8.toInt32))), (.int (0 : Int32)), (.int (0 : Int32)), (.int (0 : Int32)), (.int (0 : Int32)), (.int (0 : Int32)), (.int (0 : Int32)), (.int (0 : Int32)), (.int (0 : Int32)), (.int (0 : Int32)), (.int (0 : Int32)), (.int (0 : Int32)), (.int (0 : Int32)), (.int (0 : Int32)), (.int (0 : Int32)), (.int (nar .byte ((p4 >>> ((8 : Int32) &&& 31)).toInt8.toInt32)))] T17.heap n0 Zq17 HO17 HL17 (by omega) hcb1 hcb8 (by omega) hl2 (by omega) (Nat.le_refl _) (Or.inr ⟨ckD, kkD, bsD, gdD, VcD, hbD, neD, gcD⟩) g_b6 gi O17q SD MI V17q) hZ (hw _ (List.mem_of_getElem? (i := 47) rfl)) (hw _ (List.mem_of_getElem? (i := 3) rfl)) (by decide) (by decide)) q18a q18c (g := (mkF m 145 #[.val (.int p1), .val (.int p2), .val (.int p3), .val (.int p4), .val (.int p5), .val (.int (Int32.ofNat cb)), .val (.int (Int32.ofNat l1)), .val (.int (Int32.ofNat l2)), .val (.ref b1), .val (.ref b6), .val (.int (1 : Int32)), .val (.int (1 : Int32)), .unset] [(.int (Int32.ofNat l2)), (.int (0 : Int32)), (.ref b1), (.ref b6)])) rfl (by rw [hml]; rfl) (Steps.refl _) (argsL := [(.ref b1), (.int (0 : Int32)), (.int (Int32.ofNat l2))]) (rest := []) (lenOf pd_13 rfl) rfl (by show 2 * 0 + _ ≤ _; exact Nat.le_of_eq rfl) (hb hby at_145) (fun _ _ => ⟨rfl, rfl, (by decide : 35 + 30 ≤ _), (by decide : 140 + 88 ≤ _)⟩)
    dsimp only [Pt.U, Pt.locs, Pt.cells, Pt.slots] at X18 l18 y18 z18 st18 hQ18
    subst l18 y18 z18
    obtain ⟨rfl, N18q, O18q, V18q, edE, keE, capE, nE, vsE, mcE, HO18, HL18⟩ := hQ18
    have N18 := Fr.app N17 N18q
    have Zq18 : n0 ≤ T18.heap.size := by rw [← O18q.1]; exact O18q.2.1
    refine Gl.tr st18 ?_
    show Gl p e below P (T18.setTop (mkF m 148 #[.val (.int p1), .val (.int p2), .val (.int p3), .val (.int p4), .val (.int p5), .val (.int (Int32.ofNat cb)), .val (.int (Int32.ofNat l1)), .val (.int (Int32.ofNat l2)), .val (.ref b1), .val (.ref b6), .val (.int (1 : Int32)), .val (.int (1 : Int32)), .unset] []))
    refine Gl.st (fun _ k => XS.aload X18.here hx rfl (hb hby at_148) rfl rfl k) ?_
    show Gl p e below P (T18.setTop (mkF m 150 #[.val (.int p1), .val (.int p2), .val (.int p3), .val (.int p4), .val (.int p5), .val (.int (Int32.ofNat cb)), .val (.int (Int32.ofNat l1)), .val (.int (Int32.ofNat l2)), .val (.ref b1), .val (.ref b6), .val (.int (1 : Int32)), .val (.int (1 : Int32)), .unset] [(.ref b6)]))
    obtain ⟨cq19, kq19, q19a, q19b, q19c⟩ := isOf hZ rfl HO18.1
    obtain ⟨_, _, ⟨T19, L19, k19, n19⟩, -, X19, ⟨Lc19, hQ19, l19, y19, z19⟩, st19⟩ := X18.virtualBack hx (y := (⟨"com/example/cotab/cotab/ChunkedBytes", "size", "()I"⟩ : MethodName)) (z := (⟨"com/example/cotab/cotab/ChunkedBytes", "size", "()I"⟩ : MethodName)) hown (mvT hZ (hw _ (List.mem_of_getElem? (i := 125) rfl))) (mvT hZ (hw _ (List.mem_of_getElem? (i := 126) rfl))) (notFace_of_selects (args := #[]) (mvT hZ (hw _ (List.mem_of_getElem? (i := 128) rfl)))) (mvT hZ (hw _ (List.mem_of_getElem? (i := 128) rfl))) (mvT hZ (hw _ (List.mem_of_getElem? (i := 127) rfl))) (by decide) (backOf (W := 0) (rm46 l Z a0 hw [] b6 (Int32.ofNat (1 + l2)) T18.heap n0 Zq18 HO18.1 HO18.2.2.2) hZ (hw _ (List.mem_of_getElem? (i := 129) rfl)) (hw _ (List.mem_of_getElem? (i := 3) rfl)) (by decide) (by decide)) q19a q19c (g := (mkF m 150 #[.val (.int p1), .val (.int p2), .val (.int p3), .val (.int p4), .val (.int p5), .val (.int (Int32.ofNat cb)), .val (.int (Int32.ofNat l1)), .val (.int (Int32.ofNat l2)), .val (.ref b1), .val (.ref b6), .val (.int (1 : Int32)), .val (.int (1 : Int32)), .unset] [(.ref b6)])) rfl (by rw [hml]; rfl) (Steps.refl _) (argsL := []) (rest := []) (lenOf pd_10 rfl) rfl (by show 2 * 0 + _ ≤ _; exact Nat.le_of_eq rfl) (hb hby at_150) (fun _ _ => ⟨rfl, rfl, (by decide : 65 + 0 ≤ _), (by decide : 228 + 0 ≤ _)⟩)
    dsimp only [Pt.U, Pt.locs, Pt.cells, Pt.slots] at X19 l19 y19 z19 st19 hQ19
    subst l19 y19 z19
    obtain ⟨rfl, N19q, e19⟩ := hQ19
    have N19 := Fr.app N18 N19q
    refine Gl.tr st19 ?_
    show Gl p e below P (T19.setTop (mkF m 153 #[.val (.int p1), .val (.int p2), .val (.int p3), .val (.int p4), .val (.int p5), .val (.int (Int32.ofNat cb)), .val (.int (Int32.ofNat l1)), .val (.int (Int32.ofNat l2)), .val (.ref b1), .val (.ref b6), .val (.int (1 : Int32)), .val (.int (1 : Int32)), .unset] [(.int (Int32.ofNat (1 + l2)))]))
    refine Gl.st (fun _ k => XS.iconst X19.here hx rfl (hb hby at_153) k) ?_
    show Gl p e below P (T19.setTop (mkF m 154 #[.val (.int p1), .val (.int p2), .val (.int p3), .val (.int p4), .val (.int p5), .val (.int (Int32.ofNat cb)), .val (.int (Int32.ofNat l1)), .val (.int (Int32.ofNat l2)), .val (.ref b1), .val (.ref b6), .val (.int (1 : Int32)), .val (.int (1 : Int32)), .unset] [(.int (1 : Int32)), (.int (Int32.ofNat (1 + l2)))]))
    refine Gl.st (fun _ k => XS.iload X19.here hx rfl (hb hby at_154) rfl k) ?_
    show Gl p e below P (T19.setTop (mkF m 156 #[.val (.int p1), .val (.int p2), .val (.int p3), .val (.int p4), .val (.int p5), .val (.int (Int32.ofNat cb)), .val (.int (Int32.ofNat l1)), .val (.int (Int32.ofNat l2)), .val (.ref b1), .val (.ref b6), .val (.int (1 : Int32)), .val (.int (1 : Int32)), .unset] [(.int (Int32.ofNat l2)), (.int (1 : Int32)), (.int (Int32.ofNat (1 + l2)))]))
    refine Gl.st (fun _ k => XS.iadd X19.here hx rfl (hb hby at_156) rfl k) ?_
    show Gl p e below P (T19.setTop (mkF m 157 #[.val (.int p1), .val (.int p2), .val (.int p3), .val (.int p4), .val (.int p5), .val (.int (Int32.ofNat cb)), .val (.int (Int32.ofNat l1)), .val (.int (Int32.ofNat l2)), .val (.ref b1), .val (.ref b6), .val (.int (1 : Int32)), .val (.int (1 : Int32)), .unset] [(.int ((1 : Int32) + (Int32.ofNat l2))), (.int (Int32.ofNat (1 + l2)))]))
    rw [show ((1 : Int32) + (Int32.ofNat l2)) = (Int32.ofNat (1 + l2)) from own_add 1 l2]
    show Gl p e below P (T19.setTop (mkF m 157 #[.val (.int p1), .val (.int p2), .val (.int p3), .val (.int p4), .val (.int p5), .val (.int (Int32.ofNat cb)), .val (.int (Int32.ofNat l1)), .val (.int (Int32.ofNat l2)), .val (.ref b1), .val (.ref b6), .val (.int (1 : Int32)), .val (.int (1 : Int32)), .unset] [(.int (Int32.ofNat (1 + l2))), (.int (Int32.ofNat (1 + l2)))]))
    refine Gl.st (fun _ k => XS.icmpNo X19.here hx rfl (hb hby at_157) rfl (teq (rfl : (Int32.ofNat (1 + l2)) = (Int32.ofNat (1 + l2)))).2 k) ?_
    show Gl p e below P (T19.setTop (mkF m 160 #[.val (.int p1), .val (.int p2), .val (.int p3), .val (.int p4), .val (.int p5), .val (.int (Int32.ofNat cb)), .val (.int (Int32.ofNat l1)), .val (.int (Int32.ofNat l2)), .val (.ref b1), .val (.ref b6), .val (.int (1 : Int32)), .val (.int (1 : Int32)), .unset] []))
    refine Gl.st (fun _ k => XS.iconst X19.here hx rfl (hb hby at_160) k) ?_
    show Gl p e below P (T19.setTop (mkF m 161 #[.val (.int p1), .val (.int p2), .val (.int p3), .val (.int p4), .val (.int p5), .val (.int (Int32.ofNat cb)), .val (.int (Int32.ofNat l1)), .val (.int (Int32.ofNat l2)), .val (.ref b1), .val (.ref b6), .val (.int (1 : Int32)), .val (.int (1 : Int32)), .unset] [(.int (1 : Int32))]))
    refine Gl.st (fun _ k => XS.goto X19.here hx rfl (pc0 := 161) (pc' := 165) rfl (hb hby at_161) (by decide) (by decide) k) ?_
    show Gl p e below P (T19.setTop (mkF m 165 #[.val (.int p1), .val (.int p2), .val (.int p3), .val (.int p4), .val (.int p5), .val (.int (Int32.ofNat cb)), .val (.int (Int32.ofNat l1)), .val (.int (Int32.ofNat l2)), .val (.ref b1), .val (.ref b6), .val (.int (1 : Int32)), .val (.int (1 : Int32)), .unset] [(.int (1 : Int32))]))
    refine Gl.st (fun _ k => XS.istore X19.here hx rfl (hb hby at_165) rfl (l' := #[.val (.int p1), .val (.int p2), .val (.int p3), .val (.int p4), .val (.int p5), .val (.int (Int32.ofNat cb)), .val (.int (Int32.ofNat l1)), .val (.int (Int32.ofNat l2)), .val (.ref b1), .val (.ref b6), .val (.int (1 : Int32)), .val (.int (1 : Int32)), .val (.int (1 : Int32))]) rfl k) ?_
    show Gl p e below P (T19.setTop (mkF m 167 #[.val (.int p1), .val (.int p2), .val (.int p3), .val (.int p4), .val (.int p5), .val (.int (Int32.ofNat cb)), .val (.int (Int32.ofNat l1)), .val (.int (Int32.ofNat l2)), .val (.ref b1), .val (.ref b6), .val (.int (1 : Int32)), .val (.int (1 : Int32)), .val (.int (1 : Int32))] []))
    refine Gl.st (fun _ k => XS.iload X19.here hx rfl (hb hby at_167) rfl k) ?_
    show Gl p e below P (T19.setTop (mkF m 169 #[.val (.int p1), .val (.int p2), .val (.int p3), .val (.int p4), .val (.int p5), .val (.int (Int32.ofNat cb)), .val (.int (Int32.ofNat l1)), .val (.int (Int32.ofNat l2)), .val (.ref b1), .val (.ref b6), .val (.int (1 : Int32)), .val (.int (1 : Int32)), .val (.int (1 : Int32))] [(.int (1 : Int32))]))
    refine Gl.st (fun _ k => XS.ifNo X19.here hx rfl (hb hby at_169) rfl ((if0 _ _).trans (feq (by decide : ¬ ((1 : Int32) = (0 : Int32)))).1) k) ?_
    show Gl p e below P (T19.setTop (mkF m 172 #[.val (.int p1), .val (.int p2), .val (.int p3), .val (.int p4), .val (.int p5), .val (.int (Int32.ofNat cb)), .val (.int (Int32.ofNat l1)), .val (.int (Int32.ofNat l2)), .val (.ref b1), .val (.ref b6), .val (.int (1 : Int32)), .val (.int (1 : Int32)), .val (.int (1 : Int32))] []))
    refine Gl.st (fun _ k => XS.iload X19.here hx rfl (hb hby at_172) rfl k) ?_
    show Gl p e below P (T19.setTop (mkF m 174 #[.val (.int p1), .val (.int p2), .val (.int p3), .val (.int p4), .val (.int p5), .val (.int (Int32.ofNat cb)), .val (.int (Int32.ofNat l1)), .val (.int (Int32.ofNat l2)), .val (.ref b1), .val (.ref b6), .val (.int (1 : Int32)), .val (.int (1 : Int32)), .val (.int (1 : Int32))] [(.int (1 : Int32))]))
    refine Gl.st (fun _ k => XS.ifNo X19.here hx rfl (hb hby at_174) rfl ((if0 _ _).trans (feq (by decide : ¬ ((1 : Int32) = (0 : Int32)))).1) k) ?_
    show Gl p e below P (T19.setTop (mkF m 177 #[.val (.int p1), .val (.int p2), .val (.int p3), .val (.int p4), .val (.int p5), .val (.int (Int32.ofNat cb)), .val (.int (Int32.ofNat l1)), .val (.int (Int32.ofNat l2)), .val (.ref b1), .val (.ref b6), .val (.int (1 : Int32)), .val (.int (1 : Int32)), .val (.int (1 : Int32))] []))
    refine Gl.st (fun _ k => XS.iload X19.here hx rfl (hb hby at_177) rfl k) ?_
    show Gl p e below P (T19.setTop (mkF m 179 #[.val (.int p1), .val (.int p2), .val (.int p3), .val (.int p4), .val (.int p5), .val (.int (Int32.ofNat cb)), .val (.int (Int32.ofNat l1)), .val (.int (Int32.ofNat l2)), .val (.ref b1), .val (.ref b6), .val (.int (1 : Int32)), .val (.int (1 : Int32)), .val (.int (1 : Int32))] [(.int (1 : Int32))]))
    refine Gl.st (fun _ k => XS.ifNo X19.here hx rfl (hb hby at_179) rfl ((if0 _ _).trans (feq (by decide : ¬ ((1 : Int32) = (0 : Int32)))).1) k) ?_
    show Gl p e below P (T19.setTop (mkF m 182 #[.val (.int p1), .val (.int p2), .val (.int p3), .val (.int p4), .val (.int p5), .val (.int (Int32.ofNat cb)), .val (.int (Int32.ofNat l1)), .val (.int (Int32.ofNat l2)), .val (.ref b1), .val (.ref b6), .val (.int (1 : Int32)), .val (.int (1 : Int32)), .val (.int (1 : Int32))] []))
    refine Gl.st (fun _ k => XS.iconst X19.here hx rfl (hb hby at_182) k) ?_
    show Gl p e below P (T19.setTop (mkF m 183 #[.val (.int p1), .val (.int p2), .val (.int p3), .val (.int p4), .val (.int p5), .val (.int (Int32.ofNat cb)), .val (.int (Int32.ofNat l1)), .val (.int (Int32.ofNat l2)), .val (.ref b1), .val (.ref b6), .val (.int (1 : Int32)), .val (.int (1 : Int32)), .val (.int (1 : Int32))] [(.int (1 : Int32))]))
    refine Gl.st (fun _ k => XS.goto X19.here hx rfl (pc0 := 183) (pc' := 187) rfl (hb hby at_183) (by decide) (by decide) k) ?_
    show Gl p e below P (T19.setTop (mkF m 187 #[.val (.int p1), .val (.int p2), .val (.int p3), .val (.int p4), .val (.int p5), .val (.int (Int32.ofNat cb)), .val (.int (Int32.ofNat l1)), .val (.int (Int32.ofNat l2)), .val (.ref b1), .val (.ref b6), .val (.int (1 : Int32)), .val (.int (1 : Int32)), .val (.int (1 : Int32))] [(.int (1 : Int32))]))
    obtain ⟨fs, hr, hrun, hended, hW, hsame⟩ := X19.leave (v := some (.int (1 : Int32))) (fun h => by rw [Bd.returns] at h; cases h)
    refine ⟨_, _, retN X19 hx (t := .boolean) Bd.returns (by simp) (hb hby at_187) hr, hrun, hended, hPost _ _ ⟨_, _, rfl, ?_, ⟨_, rfl⟩, hW, hsame.mono (by decide) (by decide)⟩⟩
    show Q0 Z p1 p2 p3 p4 p5 dc kd mir h0 n0 _ T19.heap _
    rw [e19]
    exact ⟨rfl, N19⟩
set_option maxRecDepth 65536 in
set_option maxHeartbeats 40000000 in
theorem comes_1 {Post : Tables → Env → Array Value → State → Outcome → State → Prop} (hpost : ∀ tb e args s v u, (limb_1_1.after args s (.returned v) u = true ∧ limb_1_2.after args s (.returned v) u = true ∧ True) → FrameEnd s (.returned v) u (Jvm.fieldLocs frame_1_writes args s ++ Jvm.arrayLocs frame_1_arrays args s ++ Jvm.staticLocs frame_1_statics s) 88 320 → Post tb e args s (.returned v) u) :
    ArmFor flags0 classFile x code maxLocals ret World_1 tables_1 room_1 Calls_1 rest_1 Pre_1 Post := by
  intro l hfl _ _ p e ha hc hk s m args below hf hA hF happ hP
  obtain ⟨hcalls, hrest, hpre⟩ := hP
  obtain ⟨-, -, -, hnamed, -, -, -, hat⟩ := (Spec.applies_iff hf).mp happ
  obtain ⟨hg, hn⟩ := and_e (Cond.before_iff.mp (show (Jvm.Cond.and given_1 narrow_1).before args s = true from hpre))
  obtain ⟨hcnt, g0⟩ := and_e hg
  obtain ⟨ia0, g1⟩ := and_e g0
  obtain ⟨ia1, g2⟩ := and_e g1
  obtain ⟨ia2, g3⟩ := and_e g2
  obtain ⟨ia3, g4⟩ := and_e g3
  obtain ⟨w0, w1, w2, w3, w4, rfl⟩ : ∃ w0 w1 w2 w3 w4 : Value, args = #[w0, w1, w2, w3, w4] := by
    have hs : args.size = 5 := by simpa [Cond.value, given_1] using hcnt
    obtain ⟨L⟩ := args
    match L, hs with
    | [w0, w1, w2, w3, w4], _ => exact ⟨w0, w1, w2, w3, w4, rfl⟩
  have hw := fun d (hd : d ∈ tables_1) => atoms_spec (ws := Jvm.Cond.code x code maxLocals ret :: tables_1) hat d (List.mem_cons_of_mem _ hd)
  have hfit : Fit s := fun {y c} hc i hi => by
    obtain ⟨ha, rfl⟩ := Array.getElem?_eq_some_iff.mp hc
    have q := List.all_eq_true.mp ((Array.all_eq_true_iff_forall_mem.mp hF) _ (Array.getElem_mem ha)) i (List.mem_range.mpr hi)
    simpa [Array.getElem?_eq_getElem hi] using q
  obtain ⟨i0, ei0⟩ := is_v ia0
  obtain rfl : w0 = (.int i0) := Option.some.inj ei0
  obtain ⟨i1, ei1⟩ := is_v ia1
  obtain rfl : w1 = (.int i1) := Option.some.inj ei1
  obtain ⟨i2, ei2⟩ := is_v ia2
  obtain rfl : w2 = (.int i2) := Option.some.inj ei2
  obtain ⟨i3, ei3⟩ := is_v ia3
  obtain rfl : w3 = (.int i3) := Option.some.inj ei3
  obtain ⟨i4, ei4⟩ := is_v g4
  obtain rfl : w4 = (.int i4) := Option.some.inj ei4
  obtain ⟨hsets, hown0⟩ := atoms_of _ (rest_1_c_eq ▸ (show rest_1_c.before _ s = true from hrest))
  obtain ⟨dc, edc⟩ := exa_v (Cond.before_iff.mp (hsets _ (List.mem_of_getElem? (i := 7) rfl)))
  have SD : Sta s s.heap "java/util/ArrayList" "DEFAULTCAPACITY_EMPTY_ELEMENTDATA" "[Ljava/lang/Object;" (.ref dc) := Sta.start edc (Or.inr ⟨(hw _ (List.mem_of_getElem? (i := 17) rfl)), (hsets _ (List.mem_of_getElem? (i := 2) rfl))⟩)
  have ED : Exa s s.heap dc "[Ljava/lang/Object;" := Exa.start edc (Cond.before_iff.mp (hsets _ (List.mem_of_getElem? (i := 7) rfl)))
  obtain ⟨cdc, Adc⟩ := Arr.start edc (Cond.before_iff.mp (hsets _ (List.mem_of_getElem? (i := 6) rfl)))
  obtain ⟨hlt0, hl0⟩ := own_len256 edc (Adc.fin (Vm.Alike.refl _)) (eqv_i (Term.int_eval (0)) (Cond.before_iff.mp (hsets _ (List.mem_of_getElem? (i := 8) rfl))))
  have VD : Arv s s.heap dc cdc.cls (.object "java/lang/Object") (0 : Int32) [] .null := Arv.start hfit Adc hlt0 hl0 (by decide) rfl trivial
  obtain ⟨mi1, mi2, mir, mi3, mi4, mi5, mi6, mi7, mi8⟩ := hcalls.1
  have MI : Mir s "[Ljava/lang/Object;" mir := ⟨mi1, mi2, mi3, mi4, mi5, mi6, mi7, mi8⟩
  obtain ⟨n, o, h1, h2, h3, _, L, rfl, ⟨rfl, N⟩, hq⟩ := rm0 l s _ hw tables_1 i0 i1 i2 i3 i4 dc cdc.cls mir s.heap s.heap.size (Nat.le_refl _) SD ED VD (Old.start s) MI p e ha hc hk s m _ below hf ((Spec.applies_iff_loose hf).mp happ).1 ⟨rfl, State.Warmed39.refl s, rfl⟩ trivial
  refine ⟨n, _, h1, h2, h3, hpost _ _ _ _ _ _ ⟨Cond.after_iff.mpr rfl, Cond.after_iff.mpr (eq_i res_at (Term.int_eval (1)) rfl), trivial⟩ ⟨hq.1, hq.2.1, (hq.2.2.sift fun y hy => Or.inr (N y hy)).mono (by decide) (by decide)⟩⟩
theorem main_1_1 : Claimed_1_1 := comes_1 fun _ _ _ _ _ _ h hF => ⟨h.1, hF⟩
theorem main_1_2 : Claimed_1_2 := comes_1 fun _ _ _ _ _ _ h hF => ⟨h.2.1, hF⟩
end Jvm.Pilot.@@N@@
namespace Jvm.Pilot.@@N@@
open Jvm Jvm.ClassFile Sem Op Lib Jvm.Free Jvm.Stand Jvm.Pilot.@@N@@.Jvm.D
/-! MADE BY PROGRAM (witnessworld.py) out of the Statement's table words and the real class files: 29 classes; the members and pool entries that the words name. The judged class is class 1, her method 1. -/
namespace start1
open Jvm.ClassFile
def u (s : String) : CpInfo := .utf8 (stringToUtf16 s)
/-- a pool by its gaps: so many unusable entries, then the entry; so many at the end -/
def gap : Nat → List CpInfo → List CpInfo
  | 0, r => r
  | n + 1, r => .unusable :: gap n r
def poolList (es : List (Nat × CpInfo)) (last : Nat) : List CpInfo := es.foldr (fun e r => gap e.1 (e.2 :: r)) (gap last [])
def pool (es : List (Nat × CpInfo)) (last : Nat) : Array CpInfo := ⟨poolList es last⟩
def fileOf (pool : Array CpInfo) (this : Nat) (attrs : Array Attribute := #[]) (ms : Array MethodInfo := #[]) (fl : Nat := 33) (sup : Nat := 0) (ifs : Array Nat := #[]) (fds : Array FieldInfo := #[]) : ClassFile where
  minorVersion := 0
  majorVersion := 65
  constantPool := pool
  accessFlags := fl
  thisClass := this
  superClass := sup
  interfaces := ifs
  fields := fds
  methods := ms
  attributes := attrs
def plain (name : String) (sup : Option ClassId) : Class where
  name := name
  kind := .ordinary
  loader := none
  accessFlags := 33
  super := sup
  interfaces := #[]
  cf := none
  fields := #[]
  methods := #[]
  instanceTypes := #[]
  staticTypes := #[]
  resolved := #[]
  callSites := []
  init := .initialized
  statics := none
  mirror := none

def pool0 : Array CpInfo := pool [(5, u "<init>"), (0, u "()V"), (1, .class_ 10), (1, u "java/lang/Object"), (0, u "getClass"), (0, u "()Ljava/lang/Class;")] 111

def k0c0 : Code := { maxStack := 0, maxLocals := 1, code := object_method_1_code, exceptionTable := #[], attributes := #[] }
def k0m0 : Method := { name := "<init>", desc := "()V", sig := { parameters := [], returnType := none }, accessFlags := 1, code := some k0c0 }
def k0m1 : Method := { name := "getClass", desc := "()Ljava/lang/Class;", sig := { parameters := [], returnType := some (.object "java/lang/Class") }, accessFlags := 273, code := none }
/-- java/lang/Object -/
def k0 : Class := { plain "java/lang/Object" none with
  accessFlags := 33
  interfaces := #[]
  cf := some (fileOf pool0 8 #[] #[{ accessFlags := 1, nameIndex := 5, descriptorIndex := 6, attributes := #[] }, { accessFlags := 273, nameIndex := 11, descriptorIndex := 12, attributes := #[] }] 33 0 #[] #[])
  fields := #[]
  methods := #[k0m0, k0m1]
  instanceTypes := #[]
  staticTypes := #[]
  resolved := Array.replicate 124 none
  statics := none }

def pool1 : Array CpInfo := pool [(2, .class_ 4), (1, u "java/lang/Object"), (0, u "<init>"), (0, u "()V"), (0, .class_ 8), (0, u "com/example/cotab/cotab/ChunkedBytes"), (0, .methodref 7 10), (0, .nameAndType 5 11), (0, u "(I)V"), (0, .methodref 7 13), (0, .nameAndType 14 15), (0, u "write"), (0, u "([BII)V"), (0, .methodref 7 17), (0, .nameAndType 18 19), (0, u "size"), (0, u "()I"), (0, .methodref 7 21), (0, .nameAndType 22 6), (0, u "clear"), (0, .methodref 7 24), (0, .nameAndType 14 11), (0, .class_ 26), (0, u "com/example/cotab/cotab/ChunkedBytesClearPinLaw"), (2, u "law"), (0, u "(IIIII)Z")] 5

def k1m0 : Method := { name := "<init>", desc := "()V", sig := { parameters := [], returnType := none }, accessFlags := 1, code := none }
def k1c1 : Code := { maxStack := 4, maxLocals := 13, code := code, exceptionTable := #[], attributes := #[] }
def k1m1 : Method := { name := "law", desc := "(IIIII)Z", sig := { parameters := [.int, .int, .int, .int, .int], returnType := some .boolean }, accessFlags := 9, code := some k1c1 }
/-- com/example/cotab/cotab/ChunkedBytesClearPinLaw -/
def k1 : Class := { plain "com/example/cotab/cotab/ChunkedBytesClearPinLaw" (some 0) with
  accessFlags := 49
  interfaces := #[]
  cf := some (fileOf pool1 25 #[] #[{ accessFlags := 1, nameIndex := 5, descriptorIndex := 6, attributes := #[] }, { accessFlags := 9, nameIndex := 29, descriptorIndex := 30, attributes := #[] }] 49 2 #[] #[])
  fields := #[]
  methods := #[k1m0, k1m1]
  instanceTypes := #[]
  staticTypes := #[]
  resolved := Array.replicate 36 none
  statics := none }

def pool2 : Array CpInfo := pool [(1, .class_ 2), (0, u "java/lang/AutoCloseable"), (0, .class_ 4), (0, u "java/lang/Object")] 7

/-- java/lang/AutoCloseable -/
def k2 : Class := { plain "java/lang/AutoCloseable" (some 0) with
  accessFlags := 1537
  interfaces := #[]
  cf := some (fileOf pool2 1 #[] #[] 1537 3 #[] #[])
  fields := #[]
  methods := #[]
  instanceTypes := #[]
  staticTypes := #[]
  resolved := Array.replicate 12 none
  statics := none }

def pool3 : Array CpInfo := pool [(1, .class_ 2), (0, u "java/io/Closeable"), (0, .class_ 4), (0, u "java/lang/Object"), (0, .class_ 6), (0, u "java/lang/AutoCloseable")] 7

/-- java/io/Closeable -/
def k3 : Class := { plain "java/io/Closeable" (some 0) with
  accessFlags := 1537
  interfaces := #[2]
  cf := some (fileOf pool3 1 #[] #[] 1537 3 #[5] #[])
  fields := #[]
  methods := #[]
  instanceTypes := #[]
  staticTypes := #[]
  resolved := Array.replicate 14 none
  statics := none }

def pool4 : Array CpInfo := pool [(1, .class_ 2), (0, u "java/io/Flushable"), (0, .class_ 4), (0, u "java/lang/Object")] 7

/-- java/io/Flushable -/
def k4 : Class := { plain "java/io/Flushable" (some 0) with
  accessFlags := 1537
  interfaces := #[]
  cf := some (fileOf pool4 1 #[] #[] 1537 3 #[] #[])
  fields := #[]
  methods := #[]
  instanceTypes := #[]
  staticTypes := #[]
  resolved := Array.replicate 12 none
  statics := none }

def pool5 : Array CpInfo := pool [(1, .methodref 2 3), (0, .class_ 4), (0, .nameAndType 5 6), (0, u "java/lang/Object"), (0, u "<init>"), (0, u "()V"), (0, .class_ 8), (0, u "java/io/OutputStream$1"), (2, .class_ 13), (1, u "java/io/OutputStream"), (11, .class_ 26), (0, u "java/io/Closeable"), (0, .class_ 28), (0, u "java/io/Flushable")] 24

def k5c0 : Code := { maxStack := 1, maxLocals := 1, code := jdk_2038_method_1_code, exceptionTable := #[], attributes := #[] }
def k5m0 : Method := { name := "<init>", desc := "()V", sig := { parameters := [], returnType := none }, accessFlags := 1, code := some k5c0 }
/-- java/io/OutputStream -/
def k5 : Class := { plain "java/io/OutputStream" (some 0) with
  accessFlags := 1057
  interfaces := #[3, 4]
  cf := some (fileOf pool5 11 #[.nestMembers #[7]] #[{ accessFlags := 1, nameIndex := 5, descriptorIndex := 6, attributes := #[] }] 1057 2 #[25, 27] #[])
  fields := #[]
  methods := #[k5m0]
  instanceTypes := #[]
  staticTypes := #[]
  resolved := Array.replicate 53 none
  statics := none }

def pool6 : Array CpInfo := pool [(1, .methodref 2 3), (0, .class_ 4), (0, .nameAndType 5 6), (0, u "java/io/OutputStream"), (0, u "<init>"), (0, u "()V"), (0, .class_ 8), (0, u "java/util/ArrayList"), (0, .methodref 7 3), (0, .fieldref 11 12), (0, .class_ 13), (0, .nameAndType 14 15), (0, u "com/example/cotab/cotab/ChunkedBytes"), (0, u "chunks"), (0, u "Ljava/util/List;"), (0, .fieldref 11 17), (0, .nameAndType 18 19), (0, u "chunkBytes"), (0, u "I"), (0, .fieldref 11 21), (0, .nameAndType 22 19), (0, u "size"), (0, .methodref 11 24), (0, .nameAndType 25 26), (0, u "room"), (0, u "()I"), (0, .interfaceMethodref 28 29), (0, .class_ 30), (0, .nameAndType 22 26), (0, u "java/util/List"), (0, .interfaceMethodref 28 32), (0, .nameAndType 33 34), (0, u "get"), (0, u "(I)Ljava/lang/Object;"), (0, .class_ 36), (0, u "[B"), (0, .methodref 38 39), (0, .class_ 40), (0, .nameAndType 41 42), (0, u "java/lang/Math"), (0, u "min"), (0, u "(II)I"), (9, .methodref 53 54), (0, .class_ 55), (0, .nameAndType 56 57), (0, u "java/lang/System"), (0, u "arraycopy"), (0, u "(Ljava/lang/Object;ILjava/lang/Object;II)V"), (8, u "([BII)V"), (0, .interfaceMethodref 28 68), (0, .nameAndType 69 70), (0, u "add"), (0, u "(Ljava/lang/Object;)Z"), (13, u "write"), (5, u "(I)V"), (0, .interfaceMethodref 28 92), (0, .nameAndType 93 6), (0, u "clear")] 16

def k6c0 : Code := { maxStack := 3, maxLocals := 2, code := prog_2_method_1_code, exceptionTable := #[], attributes := #[] }
def k6m0 : Method := { name := "<init>", desc := "(I)V", sig := { parameters := [.int], returnType := none }, accessFlags := 0, code := some k6c0 }
def k6c1 : Code := { maxStack := 1, maxLocals := 1, code := prog_2_method_2_code, exceptionTable := #[], attributes := #[] }
def k6m1 : Method := { name := "size", desc := "()I", sig := { parameters := [], returnType := some .int }, accessFlags := 0, code := some k6c1 }
def k6c2 : Code := { maxStack := 3, maxLocals := 3, code := prog_2_method_4_code, exceptionTable := #[], attributes := #[] }
def k6m2 : Method := { name := "write", desc := "(I)V", sig := { parameters := [.int], returnType := none }, accessFlags := 1, code := some k6c2 }
def k6c3 : Code := { maxStack := 5, maxLocals := 7, code := prog_2_method_5_code, exceptionTable := #[], attributes := #[] }
def k6m3 : Method := { name := "write", desc := "([BII)V", sig := { parameters := [(.array .byte), .int, .int], returnType := none }, accessFlags := 1, code := some k6c3 }
def k6c4 : Code := { maxStack := 2, maxLocals := 1, code := prog_2_method_8_code, exceptionTable := #[], attributes := #[] }
def k6m4 : Method := { name := "clear", desc := "()V", sig := { parameters := [], returnType := none }, accessFlags := 0, code := some k6c4 }
def k6c5 : Code := { maxStack := 2, maxLocals := 2, code := prog_2_method_9_code, exceptionTable := #[], attributes := #[] }
def k6m5 : Method := { name := "room", desc := "()I", sig := { parameters := [], returnType := some .int }, accessFlags := 2, code := some k6c5 }
/-- com/example/cotab/cotab/ChunkedBytes -/
def k6 : Class := { plain "com/example/cotab/cotab/ChunkedBytes" (some 5) with
  accessFlags := 48
  interfaces := #[]
  cf := some (fileOf pool6 11 #[] #[{ accessFlags := 0, nameIndex := 5, descriptorIndex := 90, attributes := #[] }, { accessFlags := 0, nameIndex := 22, descriptorIndex := 26, attributes := #[] }, { accessFlags := 1, nameIndex := 84, descriptorIndex := 90, attributes := #[] }, { accessFlags := 1, nameIndex := 84, descriptorIndex := 66, attributes := #[] }, { accessFlags := 0, nameIndex := 93, descriptorIndex := 6, attributes := #[] }, { accessFlags := 2, nameIndex := 25, descriptorIndex := 26, attributes := #[] }] 48 2 #[] #[{ accessFlags := 18, nameIndex := 18, descriptorIndex := 19, attributes := #[] }, { accessFlags := 18, nameIndex := 14, descriptorIndex := 15, attributes := #[] }, { accessFlags := 2, nameIndex := 22, descriptorIndex := 19, attributes := #[] }])
  fields := #[{ name := "chunkBytes", type := .int, accessFlags := 18, slot := 0, constantValue := 0 }, { name := "chunks", type := (.object "java/util/List"), accessFlags := 18, slot := 1, constantValue := 0 }, { name := "size", type := .int, accessFlags := 2, slot := 2, constantValue := 0 }]
  methods := #[k6m0, k6m1, k6m2, k6m3, k6m4, k6m5]
  instanceTypes := #[.int, (.object "java/util/List"), .int]
  staticTypes := #[]
  resolved := Array.replicate 110 none
  statics := none }

def pool7 : Array CpInfo := pool [(8, .class_ 10), (1, u "java/lang/Iterable"), (24, .class_ 36), (0, u "java/lang/Object")] 25

/-- java/lang/Iterable -/
def k7 : Class := { plain "java/lang/Iterable" (some 0) with
  accessFlags := 1537
  interfaces := #[]
  cf := some (fileOf pool7 8 #[] #[] 1537 35 #[] #[])
  fields := #[]
  methods := #[]
  instanceTypes := #[]
  staticTypes := #[]
  resolved := Array.replicate 62 none
  statics := none }

def pool8 : Array CpInfo := pool [(10, .class_ 12), (1, u "java/util/Collection"), (47, .class_ 61), (0, u "java/lang/Object"), (0, .class_ 63), (0, u "java/lang/Iterable")] 51

/-- java/util/Collection -/
def k8 : Class := { plain "java/util/Collection" (some 0) with
  accessFlags := 1537
  interfaces := #[7]
  cf := some (fileOf pool8 10 #[] #[] 1537 60 #[62] #[])
  fields := #[]
  methods := #[]
  instanceTypes := #[]
  staticTypes := #[]
  resolved := Array.replicate 115 none
  statics := none }

def pool9 : Array CpInfo := pool [(1, .methodref 2 3), (0, .class_ 4), (0, .nameAndType 5 6), (0, u "java/lang/Object"), (0, u "<init>"), (0, u "()V"), (1, .class_ 10), (1, u "java/util/AbstractCollection"), (66, .class_ 78), (0, u "java/util/Collection")] 81

def k9c0 : Code := { maxStack := 1, maxLocals := 1, code := jdk_22_method_1_code, exceptionTable := #[], attributes := #[] }
def k9m0 : Method := { name := "<init>", desc := "()V", sig := { parameters := [], returnType := none }, accessFlags := 4, code := some k9c0 }
/-- java/util/AbstractCollection -/
def k9 : Class := { plain "java/util/AbstractCollection" (some 0) with
  accessFlags := 1057
  interfaces := #[8]
  cf := some (fileOf pool9 8 #[] #[{ accessFlags := 4, nameIndex := 5, descriptorIndex := 6, attributes := #[] }] 1057 2 #[77] #[])
  fields := #[]
  methods := #[k9m0]
  instanceTypes := #[]
  staticTypes := #[]
  resolved := Array.replicate 160 none
  statics := none }

def pool10 : Array CpInfo := pool [(8, .class_ 10), (1, u "java/util/SequencedCollection"), (15, .class_ 27), (0, u "java/lang/Object"), (0, .class_ 29), (0, u "java/util/Collection")] 27

/-- java/util/SequencedCollection -/
def k10 : Class := { plain "java/util/SequencedCollection" (some 0) with
  accessFlags := 1537
  interfaces := #[8]
  cf := some (fileOf pool10 8 #[] #[] 1537 26 #[28] #[])
  fields := #[]
  methods := #[]
  instanceTypes := #[]
  staticTypes := #[]
  resolved := Array.replicate 57 none
  statics := none }

def pool11 : Array CpInfo := pool [(8, .class_ 10), (1, u "java/util/List"), (49, u "add"), (3, u "(Ljava/lang/Object;)Z"), (7, u "()V"), (2, u "get"), (0, u "(I)Ljava/lang/Object;"), (2, u "size"), (0, u "()I"), (22, .class_ 104), (0, u "java/lang/Object"), (15, .class_ 121), (0, u "java/util/SequencedCollection"), (47, u "clear")] 81

def k11m0 : Method := { name := "size", desc := "()I", sig := { parameters := [], returnType := some .int }, accessFlags := 1025, code := none }
def k11m1 : Method := { name := "add", desc := "(Ljava/lang/Object;)Z", sig := { parameters := [(.object "java/lang/Object")], returnType := some .boolean }, accessFlags := 1025, code := none }
def k11m2 : Method := { name := "clear", desc := "()V", sig := { parameters := [], returnType := none }, accessFlags := 1025, code := none }
def k11m3 : Method := { name := "get", desc := "(I)Ljava/lang/Object;", sig := { parameters := [.int], returnType := some (.object "java/lang/Object") }, accessFlags := 1025, code := none }
/-- java/util/List -/
def k11 : Class := { plain "java/util/List" (some 0) with
  accessFlags := 1537
  interfaces := #[10]
  cf := some (fileOf pool11 8 #[] #[{ accessFlags := 1025, nameIndex := 79, descriptorIndex := 80, attributes := #[] }, { accessFlags := 1025, nameIndex := 60, descriptorIndex := 64, attributes := #[] }, { accessFlags := 1025, nameIndex := 169, descriptorIndex := 72, attributes := #[] }, { accessFlags := 1025, nameIndex := 75, descriptorIndex := 76, attributes := #[] }] 1537 103 #[120] #[])
  fields := #[]
  methods := #[k11m0, k11m1, k11m2, k11m3]
  instanceTypes := #[]
  staticTypes := #[]
  resolved := Array.replicate 251 none
  statics := none }

def pool12 : Array CpInfo := pool [(1, .methodref 2 3), (0, .class_ 4), (0, .nameAndType 5 6), (0, u "java/util/AbstractCollection"), (0, u "<init>"), (0, u "()V"), (0, .fieldref 8 9), (0, .class_ 10), (0, .nameAndType 11 12), (0, u "java/util/AbstractList"), (0, u "modCount"), (0, u "I"), (64, .class_ 78), (0, u "java/util/AbstractList$Itr"), (3, .class_ 83), (0, u "java/util/AbstractList$ListItr"), (9, .class_ 94), (0, u "java/util/AbstractList$RandomAccessSubList"), (3, .class_ 99), (0, u "java/util/AbstractList$SubList"), (33, .class_ 134), (0, u "java/util/List"), (73, .class_ 209), (0, u "java/util/AbstractList$SubList$1"), (0, .class_ 211), (0, u "java/util/AbstractList$RandomAccessSpliterator")] 6

def k12c0 : Code := { maxStack := 2, maxLocals := 1, code := jdk_39_method_1_code, exceptionTable := #[], attributes := #[] }
def k12m0 : Method := { name := "<init>", desc := "()V", sig := { parameters := [], returnType := none }, accessFlags := 4, code := some k12c0 }
/-- java/util/AbstractList -/
def k12 : Class := { plain "java/util/AbstractList" (some 9) with
  accessFlags := 1057
  interfaces := #[11]
  cf := some (fileOf pool12 8 #[.nestMembers #[93, 98, 208, 210, 82, 77]] #[{ accessFlags := 4, nameIndex := 5, descriptorIndex := 6, attributes := #[] }] 1057 2 #[133] #[{ accessFlags := 132, nameIndex := 11, descriptorIndex := 12, attributes := #[] }])
  fields := #[{ name := "modCount", type := .int, accessFlags := 132, slot := 0, constantValue := 0 }]
  methods := #[k12m0]
  instanceTypes := #[.int]
  staticTypes := #[]
  resolved := Array.replicate 218 none
  statics := none }

def pool13 : Array CpInfo := pool [(1, .class_ 2), (0, u "java/util/RandomAccess"), (0, .class_ 4), (0, u "java/lang/Object")] 2

/-- java/util/RandomAccess -/
def k13 : Class := { plain "java/util/RandomAccess" (some 0) with
  accessFlags := 1537
  interfaces := #[]
  cf := some (fileOf pool13 1 #[] #[] 1537 3 #[] #[])
  fields := #[]
  methods := #[]
  instanceTypes := #[]
  staticTypes := #[]
  resolved := Array.replicate 7 none
  statics := none }

def pool14 : Array CpInfo := pool [(1, .class_ 2), (0, u "java/lang/Cloneable"), (0, .class_ 4), (0, u "java/lang/Object")] 2

/-- java/lang/Cloneable -/
def k14 : Class := { plain "java/lang/Cloneable" (some 0) with
  accessFlags := 1537
  interfaces := #[]
  cf := some (fileOf pool14 1 #[] #[] 1537 3 #[] #[])
  fields := #[]
  methods := #[]
  instanceTypes := #[]
  staticTypes := #[]
  resolved := Array.replicate 7 none
  statics := none }

def pool15 : Array CpInfo := pool [(1, .class_ 2), (0, u "java/io/Serializable"), (0, .class_ 4), (0, u "java/lang/Object")] 2

/-- java/io/Serializable -/
def k15 : Class := { plain "java/io/Serializable" (some 0) with
  accessFlags := 1537
  interfaces := #[]
  cf := some (fileOf pool15 1 #[] #[] 1537 3 #[] #[])
  fields := #[]
  methods := #[]
  instanceTypes := #[]
  staticTypes := #[]
  resolved := Array.replicate 7 none
  statics := none }

def pool16 : Array CpInfo := pool [(1, .methodref 2 3), (0, .class_ 4), (0, .nameAndType 5 6), (0, u "java/util/AbstractList"), (0, u "<init>"), (0, u "()V"), (0, .class_ 8), (0, u "java/lang/Object"), (0, .fieldref 10 11), (0, .class_ 12), (0, .nameAndType 13 14), (0, u "java/util/ArrayList"), (0, u "elementData"), (0, u "[Ljava/lang/Object;"), (2, u "EMPTY_ELEMENTDATA"), (21, .fieldref 10 40), (0, .nameAndType 41 14), (0, u "DEFAULTCAPACITY_EMPTY_ELEMENTDATA"), (5, u "()[Ljava/lang/Object;"), (0, .fieldref 10 49), (0, .nameAndType 50 51), (0, u "size"), (0, u "I"), (6, .class_ 60), (1, u "java/util/Arrays"), (0, u "copyOf"), (1, .fieldref 10 64), (0, .nameAndType 65 51), (0, u "modCount"), (0, .methodref 58 67), (0, .nameAndType 61 68), (0, u "([Ljava/lang/Object;I)[Ljava/lang/Object;"), (0, .methodref 10 70), (0, .nameAndType 71 72), (0, u "grow"), (0, u "(I)[Ljava/lang/Object;"), (0, .methodref 74 75), (0, .class_ 76), (0, .nameAndType 77 78), (0, u "jdk/internal/util/ArraysSupport"), (0, u "newLength"), (0, u "(III)I"), (0, .methodref 80 81), (0, .class_ 82), (0, .nameAndType 83 84), (0, u "java/lang/Math"), (0, u "max"), (0, u "(II)I"), (11, u "(Ljava/lang/Object;)Z"), (21, .methodref 119 120), (0, .class_ 121), (0, .nameAndType 122 84), (0, u "java/util/Objects"), (0, u "checkIndex"), (0, .methodref 10 124), (0, .nameAndType 13 125), (0, u "(I)Ljava/lang/Object;"), (3, .methodref 10 130), (0, .nameAndType 71 47), (0, .methodref 10 132), (0, .nameAndType 133 134), (0, u "add"), (0, u "(Ljava/lang/Object;[Ljava/lang/Object;I)V"), (13, .class_ 149), (0, u "java/util/List"), (36, u "()I"), (75, .class_ 263), (0, u "java/util/ArrayList$ListItr"), (3, .class_ 268), (0, u "java/util/ArrayList$Itr"), (7, .class_ 277), (0, u "java/util/ArrayList$SubList"), (12, .class_ 291), (0, u "java/util/ArrayList$ArrayListSpliterator"), (37, .class_ 330), (0, u "java/util/RandomAccess"), (0, .class_ 332), (0, u "java/lang/Cloneable"), (0, .class_ 334), (0, u "java/io/Serializable"), (0, u "serialVersionUID"), (0, u "J"), (3, u "DEFAULT_CAPACITY"), (40, u "get"), (37, u "clear"), (80, .class_ 501), (0, u "java/util/ArrayList$SubList$2"), (0, .class_ 503), (0, u "java/util/ArrayList$SubList$1")] 5

def k16c0 : Code := { maxStack := 2, maxLocals := 1, code := jdk_38_method_2_code, exceptionTable := #[], attributes := #[] }
def k16m0 : Method := { name := "<init>", desc := "()V", sig := { parameters := [], returnType := none }, accessFlags := 1, code := some k16c0 }
def k16c1 : Code := { maxStack := 4, maxLocals := 4, code := jdk_38_method_6_code, exceptionTable := #[], attributes := #[] }
def k16m1 : Method := { name := "grow", desc := "(I)[Ljava/lang/Object;", sig := { parameters := [.int], returnType := some (.array (.object "java/lang/Object")) }, accessFlags := 2, code := some k16c1 }
def k16c2 : Code := { maxStack := 3, maxLocals := 1, code := jdk_38_method_7_code, exceptionTable := #[], attributes := #[] }
def k16m2 : Method := { name := "grow", desc := "()[Ljava/lang/Object;", sig := { parameters := [], returnType := some (.array (.object "java/lang/Object")) }, accessFlags := 2, code := some k16c2 }
def k16c3 : Code := { maxStack := 1, maxLocals := 1, code := jdk_38_method_8_code, exceptionTable := #[], attributes := #[] }
def k16m3 : Method := { name := "size", desc := "()I", sig := { parameters := [], returnType := some .int }, accessFlags := 1, code := some k16c3 }
def k16c4 : Code := { maxStack := 2, maxLocals := 2, code := jdk_38_method_18_code, exceptionTable := #[], attributes := #[] }
def k16m4 : Method := { name := "elementData", desc := "(I)Ljava/lang/Object;", sig := { parameters := [.int], returnType := some (.object "java/lang/Object") }, accessFlags := 0, code := some k16c4 }
def k16c5 : Code := { maxStack := 2, maxLocals := 2, code := jdk_38_method_20_code, exceptionTable := #[], attributes := #[] }
def k16m5 : Method := { name := "get", desc := "(I)Ljava/lang/Object;", sig := { parameters := [.int], returnType := some (.object "java/lang/Object") }, accessFlags := 1, code := some k16c5 }
def k16c6 : Code := { maxStack := 3, maxLocals := 4, code := jdk_38_method_24_code, exceptionTable := #[], attributes := #[] }
def k16m6 : Method := { name := "add", desc := "(Ljava/lang/Object;[Ljava/lang/Object;I)V", sig := { parameters := [(.object "java/lang/Object"), (.array (.object "java/lang/Object")), .int], returnType := none }, accessFlags := 2, code := some k16c6 }
def k16c7 : Code := { maxStack := 4, maxLocals := 2, code := jdk_38_method_25_code, exceptionTable := #[], attributes := #[] }
def k16m7 : Method := { name := "add", desc := "(Ljava/lang/Object;)Z", sig := { parameters := [(.object "java/lang/Object")], returnType := some .boolean }, accessFlags := 1, code := some k16c7 }
def k16c8 : Code := { maxStack := 3, maxLocals := 4, code := jdk_38_method_40_code, exceptionTable := #[], attributes := #[] }
def k16m8 : Method := { name := "clear", desc := "()V", sig := { parameters := [], returnType := none }, accessFlags := 1, code := some k16c8 }
/-- java/util/ArrayList -/
def k16 : Class := { plain "java/util/ArrayList" (some 12) with
  accessFlags := 33
  interfaces := #[11, 13, 14, 15]
  cf := some (fileOf pool16 10 #[.nestMembers #[290, 276, 500, 502, 262, 267]] #[{ accessFlags := 1, nameIndex := 5, descriptorIndex := 6, attributes := #[] }, { accessFlags := 2, nameIndex := 71, descriptorIndex := 72, attributes := #[] }, { accessFlags := 2, nameIndex := 71, descriptorIndex := 47, attributes := #[] }, { accessFlags := 1, nameIndex := 50, descriptorIndex := 186, attributes := #[] }, { accessFlags := 0, nameIndex := 13, descriptorIndex := 125, attributes := #[] }, { accessFlags := 1, nameIndex := 381, descriptorIndex := 125, attributes := #[] }, { accessFlags := 2, nameIndex := 133, descriptorIndex := 134, attributes := #[] }, { accessFlags := 1, nameIndex := 133, descriptorIndex := 96, attributes := #[] }, { accessFlags := 1, nameIndex := 419, descriptorIndex := 6, attributes := #[] }] 33 2 #[148, 329, 331, 333] #[{ accessFlags := 26, nameIndex := 335, descriptorIndex := 336, attributes := #[] }, { accessFlags := 26, nameIndex := 340, descriptorIndex := 51, attributes := #[] }, { accessFlags := 26, nameIndex := 17, descriptorIndex := 14, attributes := #[] }, { accessFlags := 26, nameIndex := 41, descriptorIndex := 14, attributes := #[] }, { accessFlags := 128, nameIndex := 13, descriptorIndex := 14, attributes := #[] }, { accessFlags := 2, nameIndex := 50, descriptorIndex := 51, attributes := #[] }])
  fields := #[{ name := "serialVersionUID", type := .long, accessFlags := 26, slot := 0, constantValue := 0 }, { name := "DEFAULT_CAPACITY", type := .int, accessFlags := 26, slot := 1, constantValue := 0 }, { name := "EMPTY_ELEMENTDATA", type := (.array (.object "java/lang/Object")), accessFlags := 26, slot := 2, constantValue := 0 }, { name := "DEFAULTCAPACITY_EMPTY_ELEMENTDATA", type := (.array (.object "java/lang/Object")), accessFlags := 26, slot := 3, constantValue := 0 }, { name := "elementData", type := (.array (.object "java/lang/Object")), accessFlags := 128, slot := 1, constantValue := 0 }, { name := "size", type := .int, accessFlags := 2, slot := 2, constantValue := 0 }]
  methods := #[k16m0, k16m1, k16m2, k16m3, k16m4, k16m5, k16m6, k16m7, k16m8]
  instanceTypes := #[.int, (.array (.object "java/lang/Object")), .int]
  staticTypes := #[.long, .int, (.array (.object "java/lang/Object")), (.array (.object "java/lang/Object"))]
  resolved := Array.replicate 509 none
  statics := some 0 }

def pool17 : Array CpInfo := pool [(1, .class_ 2), (0, u "java/lang/Math"), (1, .class_ 6), (1, u "java/lang/Object"), (0, u "<init>"), (0, u "()V"), (89, .class_ 100), (1, u "java/lang/Math$RandomNumberGeneratorHolder"), (71, u "negativeZeroFloatBits"), (0, u "J"), (2, u "negativeZeroDoubleBits"), (21, u "max"), (2, u "min"), (43, u "$assertionsDisabled"), (0, u "Z"), (88, u "(II)I"), (2, u "twoToTheDoubleScaleDown"), (0, u "D"), (4, u "twoToTheDoubleScaleUp"), (9, u "E"), (3, u "PI"), (2, u "TAU"), (2, u "DEGREES_TO_RADIANS"), (0, u "RADIANS_TO_DEGREES")] 94

def k17m0 : Method := { name := "<init>", desc := "()V", sig := { parameters := [], returnType := none }, accessFlags := 2, code := none }
def k17c1 : Code := { maxStack := 2, maxLocals := 2, code := jdk_29_method_65_code, exceptionTable := #[], attributes := #[] }
def k17m1 : Method := { name := "max", desc := "(II)I", sig := { parameters := [.int, .int], returnType := some .int }, accessFlags := 9, code := some k17c1 }
def k17c2 : Code := { maxStack := 2, maxLocals := 2, code := jdk_29_method_69_code, exceptionTable := #[], attributes := #[] }
def k17m2 : Method := { name := "min", desc := "(II)I", sig := { parameters := [.int, .int], returnType := some .int }, accessFlags := 9, code := some k17c2 }
/-- java/lang/Math -/
def k17 : Class := { plain "java/lang/Math" (some 0) with
  accessFlags := 49
  interfaces := #[]
  cf := some (fileOf pool17 1 #[.nestMembers #[98]] #[{ accessFlags := 2, nameIndex := 7, descriptorIndex := 8, attributes := #[] }, { accessFlags := 9, nameIndex := 198, descriptorIndex := 335, attributes := #[] }, { accessFlags := 9, nameIndex := 201, descriptorIndex := 335, attributes := #[] }] 49 4 #[] #[{ accessFlags := 25, nameIndex := 354, descriptorIndex := 339, attributes := #[] }, { accessFlags := 25, nameIndex := 358, descriptorIndex := 339, attributes := #[] }, { accessFlags := 25, nameIndex := 361, descriptorIndex := 339, attributes := #[] }, { accessFlags := 26, nameIndex := 364, descriptorIndex := 339, attributes := #[] }, { accessFlags := 26, nameIndex := 365, descriptorIndex := 339, attributes := #[] }, { accessFlags := 26, nameIndex := 172, descriptorIndex := 173, attributes := #[] }, { accessFlags := 26, nameIndex := 176, descriptorIndex := 173, attributes := #[] }, { accessFlags := 8, nameIndex := 344, descriptorIndex := 339, attributes := #[] }, { accessFlags := 8, nameIndex := 338, descriptorIndex := 339, attributes := #[] }, { accessFlags := 4120, nameIndex := 245, descriptorIndex := 246, attributes := #[] }])
  fields := #[{ name := "E", type := .double, accessFlags := 25, slot := 0, constantValue := 0 }, { name := "PI", type := .double, accessFlags := 25, slot := 1, constantValue := 0 }, { name := "TAU", type := .double, accessFlags := 25, slot := 2, constantValue := 0 }, { name := "DEGREES_TO_RADIANS", type := .double, accessFlags := 26, slot := 3, constantValue := 0 }, { name := "RADIANS_TO_DEGREES", type := .double, accessFlags := 26, slot := 4, constantValue := 0 }, { name := "negativeZeroFloatBits", type := .long, accessFlags := 26, slot := 5, constantValue := 0 }, { name := "negativeZeroDoubleBits", type := .long, accessFlags := 26, slot := 6, constantValue := 0 }, { name := "twoToTheDoubleScaleUp", type := .double, accessFlags := 8, slot := 7, constantValue := 0 }, { name := "twoToTheDoubleScaleDown", type := .double, accessFlags := 8, slot := 8, constantValue := 0 }, { name := "$assertionsDisabled", type := .boolean, accessFlags := 4120, slot := 9, constantValue := 0 }]
  methods := #[k17m0, k17m1, k17m2]
  instanceTypes := #[]
  staticTypes := #[.double, .double, .double, .double, .double, .long, .long, .double, .double, .boolean]
  resolved := Array.replicate 460 none
  statics := none }

def pool18 : Array CpInfo := pool [(2, .class_ 4), (1, u "java/lang/Object"), (0, u "<init>"), (0, u "()V"), (35, .class_ 44), (1, u "java/util/Objects"), (60, .methodref 106 107), (0, .class_ 108), (0, .nameAndType 109 110), (0, u "jdk/internal/util/Preconditions"), (0, u "checkIndex"), (0, u "(IILjava/util/function/BiFunction;)I"), (60, u "(II)I")] 12

def k18m0 : Method := { name := "<init>", desc := "()V", sig := { parameters := [], returnType := none }, accessFlags := 2, code := none }
def k18c1 : Code := { maxStack := 3, maxLocals := 2, code := jdk_31_method_17_code, exceptionTable := #[], attributes := #[] }
def k18m1 : Method := { name := "checkIndex", desc := "(II)I", sig := { parameters := [.int, .int], returnType := some .int }, accessFlags := 9, code := some k18c1 }
/-- java/util/Objects -/
def k18 : Class := { plain "java/util/Objects" (some 0) with
  accessFlags := 49
  interfaces := #[]
  cf := some (fileOf pool18 42 #[] #[{ accessFlags := 2, nameIndex := 5, descriptorIndex := 6, attributes := #[] }, { accessFlags := 9, nameIndex := 109, descriptorIndex := 171, attributes := #[] }] 49 2 #[] #[])
  fields := #[]
  methods := #[k18m0, k18m1]
  instanceTypes := #[]
  staticTypes := #[]
  resolved := Array.replicate 184 none
  statics := none }

def pool19 : Array CpInfo := pool [(2, .class_ 4), (1, u "java/lang/Object"), (0, u "<init>"), (0, u "()V"), (17, .class_ 26), (1, u "jdk/internal/util/Preconditions"), (6, u "checkIndex"), (21, .class_ 56), (0, u "jdk/internal/util/Preconditions$4"), (57, .class_ 115), (0, u "jdk/internal/util/Preconditions$1"), (7, u "SIOOBE_FORMATTER"), (0, u "Ljava/util/function/BiFunction;"), (0, .class_ 126), (0, u "jdk/internal/util/Preconditions$2"), (3, u "AIOOBE_FORMATTER"), (0, .class_ 132), (0, u "jdk/internal/util/Preconditions$3"), (3, u "IOOBE_FORMATTER"), (41, u "(IILjava/util/function/BiFunction;)I")] 15

def k19m0 : Method := { name := "<init>", desc := "()V", sig := { parameters := [], returnType := none }, accessFlags := 1, code := none }
def k19c1 : Code := { maxStack := 3, maxLocals := 3, code := jdk_41_method_11_code, exceptionTable := #[], attributes := #[] }
def k19m1 : Method := { name := "checkIndex", desc := "(IILjava/util/function/BiFunction;)I", sig := { parameters := [.int, .int, (.object "java/util/function/BiFunction")], returnType := some .int }, accessFlags := 9, code := some k19c1 }
/-- jdk/internal/util/Preconditions -/
def k19 : Class := { plain "jdk/internal/util/Preconditions" (some 0) with
  accessFlags := 33
  interfaces := #[]
  cf := some (fileOf pool19 24 #[.nestMembers #[55, 131, 125, 114]] #[{ accessFlags := 1, nameIndex := 5, descriptorIndex := 6, attributes := #[] }, { accessFlags := 9, nameIndex := 33, descriptorIndex := 178, attributes := #[] }] 33 2 #[] #[{ accessFlags := 25, nameIndex := 123, descriptorIndex := 124, attributes := #[] }, { accessFlags := 25, nameIndex := 130, descriptorIndex := 124, attributes := #[] }, { accessFlags := 25, nameIndex := 136, descriptorIndex := 124, attributes := #[] }])
  fields := #[{ name := "SIOOBE_FORMATTER", type := (.object "java/util/function/BiFunction"), accessFlags := 25, slot := 0, constantValue := 0 }, { name := "AIOOBE_FORMATTER", type := (.object "java/util/function/BiFunction"), accessFlags := 25, slot := 1, constantValue := 0 }, { name := "IOOBE_FORMATTER", type := (.object "java/util/function/BiFunction"), accessFlags := 25, slot := 2, constantValue := 0 }]
  methods := #[k19m0, k19m1]
  instanceTypes := #[]
  staticTypes := #[(.object "java/util/function/BiFunction"), (.object "java/util/function/BiFunction"), (.object "java/util/function/BiFunction")]
  resolved := Array.replicate 194 none
  statics := none }

def pool20 : Array CpInfo := pool [(2, .class_ 4), (1, u "java/lang/Object"), (0, u "<init>"), (0, u "()V"), (1, .class_ 10), (1, u "java/lang/System"), (0, u "allowSecurityManager"), (0, u "I"), (16, u "cons"), (0, u "Ljava/io/Console;"), (77, .class_ 110), (1, u "java/lang/System$CallersHolder"), (43, u "initialErrStream"), (0, u "Ljava/io/PrintStream;"), (19, u "security"), (0, u "Ljava/lang/SecurityManager;"), (31, .class_ 209), (0, u "java/lang/System$1"), (7, u "props"), (0, u "Ljava/util/Properties;"), (2, u "lineSeparator"), (0, u "Ljava/lang/String;"), (96, .class_ 321), (1, u "java/lang/System$LoggerFinder"), (5, .class_ 328), (0, u "java/lang/System$Logger"), (67, u "err"), (2, u "out"), (91, u "notSupportedJnuEncoding"), (15, u "in"), (17, u "initialIn"), (0, u "Ljava/io/InputStream;"), (35, u "bootLayer"), (0, u "Ljava/lang/ModuleLayer;"), (99, .class_ 664), (0, u "java/lang/System$2"), (9, u "NEVER"), (2, u "MAYBE"), (49, u "arraycopy"), (0, u "(Ljava/lang/Object;ILjava/lang/Object;II)V"), (72, .class_ 802), (0, u "java/lang/System$Logger$Level")] 31

def k20m0 : Method := { name := "<init>", desc := "()V", sig := { parameters := [], returnType := none }, accessFlags := 2, code := none }
def k20m1 : Method := { name := "arraycopy", desc := "(Ljava/lang/Object;ILjava/lang/Object;II)V", sig := { parameters := [(.object "java/lang/Object"), .int, (.object "java/lang/Object"), .int, .int], returnType := none }, accessFlags := 265, code := none }
/-- java/lang/System -/
def k20 : Class := { plain "java/lang/System" (some 0) with
  accessFlags := 49
  interfaces := #[]
  cf := some (fileOf pool20 8 #[.nestMembers #[319, 327, 801, 108, 663, 208]] #[{ accessFlags := 2, nameIndex := 5, descriptorIndex := 6, attributes := #[] }, { accessFlags := 265, nameIndex := 727, descriptorIndex := 728, attributes := #[] }] 49 2 #[] #[{ accessFlags := 25, nameIndex := 507, descriptorIndex := 526, attributes := #[] }, { accessFlags := 25, nameIndex := 399, descriptorIndex := 155, attributes := #[] }, { accessFlags := 25, nameIndex := 396, descriptorIndex := 155, attributes := #[] }, { accessFlags := 10, nameIndex := 525, descriptorIndex := 526, attributes := #[] }, { accessFlags := 26, nameIndex := 674, descriptorIndex := 12, attributes := #[] }, { accessFlags := 26, nameIndex := 677, descriptorIndex := 12, attributes := #[] }, { accessFlags := 10, nameIndex := 11, descriptorIndex := 12, attributes := #[] }, { accessFlags := 74, nameIndex := 175, descriptorIndex := 176, attributes := #[] }, { accessFlags := 10, nameIndex := 491, descriptorIndex := 222, attributes := #[] }, { accessFlags := 74, nameIndex := 29, descriptorIndex := 30, attributes := #[] }, { accessFlags := 74, nameIndex := 154, descriptorIndex := 155, attributes := #[] }, { accessFlags := 10, nameIndex := 217, descriptorIndex := 218, attributes := #[] }, { accessFlags := 10, nameIndex := 221, descriptorIndex := 222, attributes := #[] }, { accessFlags := 8, nameIndex := 562, descriptorIndex := 563, attributes := #[] }])
  fields := #[{ name := "in", type := (.object "java/io/InputStream"), accessFlags := 25, slot := 0, constantValue := 0 }, { name := "out", type := (.object "java/io/PrintStream"), accessFlags := 25, slot := 1, constantValue := 0 }, { name := "err", type := (.object "java/io/PrintStream"), accessFlags := 25, slot := 2, constantValue := 0 }, { name := "initialIn", type := (.object "java/io/InputStream"), accessFlags := 10, slot := 3, constantValue := 0 }, { name := "NEVER", type := .int, accessFlags := 26, slot := 4, constantValue := 0 }, { name := "MAYBE", type := .int, accessFlags := 26, slot := 5, constantValue := 0 }, { name := "allowSecurityManager", type := .int, accessFlags := 10, slot := 6, constantValue := 0 }, { name := "security", type := (.object "java/lang/SecurityManager"), accessFlags := 74, slot := 7, constantValue := 0 }, { name := "notSupportedJnuEncoding", type := (.object "java/lang/String"), accessFlags := 10, slot := 8, constantValue := 0 }, { name := "cons", type := (.object "java/io/Console"), accessFlags := 74, slot := 9, constantValue := 0 }, { name := "initialErrStream", type := (.object "java/io/PrintStream"), accessFlags := 74, slot := 10, constantValue := 0 }, { name := "props", type := (.object "java/util/Properties"), accessFlags := 10, slot := 11, constantValue := 0 }, { name := "lineSeparator", type := (.object "java/lang/String"), accessFlags := 10, slot := 12, constantValue := 0 }, { name := "bootLayer", type := (.object "java/lang/ModuleLayer"), accessFlags := 8, slot := 13, constantValue := 0 }]
  methods := #[k20m0, k20m1]
  instanceTypes := #[]
  staticTypes := #[(.object "java/io/InputStream"), (.object "java/io/PrintStream"), (.object "java/io/PrintStream"), (.object "java/io/InputStream"), .int, .int, .int, (.object "java/lang/SecurityManager"), (.object "java/lang/String"), (.object "java/io/Console"), (.object "java/io/PrintStream"), (.object "java/util/Properties"), (.object "java/lang/String"), (.object "java/lang/ModuleLayer")]
  resolved := Array.replicate 834 none
  statics := none }

def pool21 : Array CpInfo := pool [(9, u "<init>"), (6, .class_ 18), (1, u "java/lang/Object"), (0, u "()V"), (1, .class_ 23), (1, u "jdk/internal/util/ArraysSupport"), (0, u "LOG2_ARRAY_LONG_INDEX_SCALE"), (0, u "I"), (2, u "U"), (0, u "Ljdk/internal/misc/Unsafe;"), (8, u "BIG_ENDIAN"), (0, u "Z"), (8, u "LOG2_BYTE_BIT_SIZE"), (4, u "LOG2_ARRAY_INT_INDEX_SCALE"), (54, u "JLA"), (0, u "Ljdk/internal/access/JavaLangAccess;"), (11, u "LOG2_ARRAY_BOOLEAN_INDEX_SCALE"), (9, u "LOG2_ARRAY_BYTE_INDEX_SCALE"), (5, u "LOG2_ARRAY_CHAR_INDEX_SCALE"), (5, u "LOG2_ARRAY_SHORT_INDEX_SCALE"), (18, u "LOG2_ARRAY_FLOAT_INDEX_SCALE"), (24, u "LOG2_ARRAY_DOUBLE_INDEX_SCALE"), (6, .methodref 195 196), (0, .class_ 197), (0, .nameAndType 198 199), (0, u "java/lang/Math"), (0, u "max"), (0, u "(II)I"), (0, .integer 2147483639), (76, u "T_BOOLEAN"), (2, u "T_CHAR"), (1, u "T_FLOAT"), (1, u "T_DOUBLE"), (1, u "T_BYTE"), (1, u "T_SHORT"), (1, u "T_INT"), (1, u "T_LONG"), (1, u "SOFT_MAX_ARRAY_LENGTH"), (56, u "newLength"), (0, u "(III)I")] 25

def k21m0 : Method := { name := "<init>", desc := "()V", sig := { parameters := [], returnType := none }, accessFlags := 2, code := none }
def k21c1 : Code := { maxStack := 3, maxLocals := 4, code := jdk_48_method_27_code, exceptionTable := #[], attributes := #[] }
def k21m1 : Method := { name := "newLength", desc := "(III)I", sig := { parameters := [.int, .int, .int], returnType := some .int }, accessFlags := 9, code := some k21c1 }
/-- jdk/internal/util/ArraysSupport -/
def k21 : Class := { plain "jdk/internal/util/ArraysSupport" (some 0) with
  accessFlags := 33
  interfaces := #[]
  cf := some (fileOf pool21 21 #[] #[{ accessFlags := 2, nameIndex := 9, descriptorIndex := 19, attributes := #[] }, { accessFlags := 9, nameIndex := 351, descriptorIndex := 352, attributes := #[] }] 33 16 #[] #[{ accessFlags := 24, nameIndex := 28, descriptorIndex := 29, attributes := #[] }, { accessFlags := 26, nameIndex := 38, descriptorIndex := 39, attributes := #[] }, { accessFlags := 25, nameIndex := 121, descriptorIndex := 25, attributes := #[] }, { accessFlags := 25, nameIndex := 131, descriptorIndex := 25, attributes := #[] }, { accessFlags := 25, nameIndex := 137, descriptorIndex := 25, attributes := #[] }, { accessFlags := 25, nameIndex := 143, descriptorIndex := 25, attributes := #[] }, { accessFlags := 25, nameIndex := 53, descriptorIndex := 25, attributes := #[] }, { accessFlags := 25, nameIndex := 24, descriptorIndex := 25, attributes := #[] }, { accessFlags := 25, nameIndex := 162, descriptorIndex := 25, attributes := #[] }, { accessFlags := 25, nameIndex := 187, descriptorIndex := 25, attributes := #[] }, { accessFlags := 26, nameIndex := 48, descriptorIndex := 25, attributes := #[] }, { accessFlags := 25, nameIndex := 277, descriptorIndex := 25, attributes := #[] }, { accessFlags := 25, nameIndex := 280, descriptorIndex := 25, attributes := #[] }, { accessFlags := 25, nameIndex := 282, descriptorIndex := 25, attributes := #[] }, { accessFlags := 25, nameIndex := 284, descriptorIndex := 25, attributes := #[] }, { accessFlags := 25, nameIndex := 286, descriptorIndex := 25, attributes := #[] }, { accessFlags := 25, nameIndex := 288, descriptorIndex := 25, attributes := #[] }, { accessFlags := 25, nameIndex := 290, descriptorIndex := 25, attributes := #[] }, { accessFlags := 25, nameIndex := 292, descriptorIndex := 25, attributes := #[] }, { accessFlags := 26, nameIndex := 108, descriptorIndex := 109, attributes := #[] }, { accessFlags := 25, nameIndex := 294, descriptorIndex := 25, attributes := #[] }])
  fields := #[{ name := "U", type := (.object "jdk/internal/misc/Unsafe"), accessFlags := 24, slot := 0, constantValue := 0 }, { name := "BIG_ENDIAN", type := .boolean, accessFlags := 26, slot := 1, constantValue := 0 }, { name := "LOG2_ARRAY_BOOLEAN_INDEX_SCALE", type := .int, accessFlags := 25, slot := 2, constantValue := 0 }, { name := "LOG2_ARRAY_BYTE_INDEX_SCALE", type := .int, accessFlags := 25, slot := 3, constantValue := 0 }, { name := "LOG2_ARRAY_CHAR_INDEX_SCALE", type := .int, accessFlags := 25, slot := 4, constantValue := 0 }, { name := "LOG2_ARRAY_SHORT_INDEX_SCALE", type := .int, accessFlags := 25, slot := 5, constantValue := 0 }, { name := "LOG2_ARRAY_INT_INDEX_SCALE", type := .int, accessFlags := 25, slot := 6, constantValue := 0 }, { name := "LOG2_ARRAY_LONG_INDEX_SCALE", type := .int, accessFlags := 25, slot := 7, constantValue := 0 }, { name := "LOG2_ARRAY_FLOAT_INDEX_SCALE", type := .int, accessFlags := 25, slot := 8, constantValue := 0 }, { name := "LOG2_ARRAY_DOUBLE_INDEX_SCALE", type := .int, accessFlags := 25, slot := 9, constantValue := 0 }, { name := "LOG2_BYTE_BIT_SIZE", type := .int, accessFlags := 26, slot := 10, constantValue := 0 }, { name := "T_BOOLEAN", type := .int, accessFlags := 25, slot := 11, constantValue := 0 }, { name := "T_CHAR", type := .int, accessFlags := 25, slot := 12, constantValue := 0 }, { name := "T_FLOAT", type := .int, accessFlags := 25, slot := 13, constantValue := 0 }, { name := "T_DOUBLE", type := .int, accessFlags := 25, slot := 14, constantValue := 0 }, { name := "T_BYTE", type := .int, accessFlags := 25, slot := 15, constantValue := 0 }, { name := "T_SHORT", type := .int, accessFlags := 25, slot := 16, constantValue := 0 }, { name := "T_INT", type := .int, accessFlags := 25, slot := 17, constantValue := 0 }, { name := "T_LONG", type := .int, accessFlags := 25, slot := 18, constantValue := 0 }, { name := "JLA", type := (.object "jdk/internal/access/JavaLangAccess"), accessFlags := 26, slot := 19, constantValue := 0 }, { name := "SOFT_MAX_ARRAY_LENGTH", type := .int, accessFlags := 25, slot := 20, constantValue := 0 }]
  methods := #[k21m0, k21m1]
  instanceTypes := #[]
  staticTypes := #[(.object "jdk/internal/misc/Unsafe"), .boolean, .int, .int, .int, .int, .int, .int, .int, .int, .int, .int, .int, .int, .int, .int, .int, .int, .int, (.object "jdk/internal/access/JavaLangAccess"), .int]
  resolved := Array.replicate 378 none
  statics := none }

def pool22 : Array CpInfo := pool [(2, .class_ 4), (1, u "java/lang/Object"), (0, u "<init>"), (0, u "()V"), (7, .class_ 16), (1, u "java/util/Arrays"), (57, .class_ 76), (1, u "java/util/Arrays$NaturalOrder"), (9, .methodref 2 87), (0, .nameAndType 88 89), (0, u "getClass"), (0, u "()Ljava/lang/Class;"), (20, .class_ 111), (0, u "[Ljava/lang/Object;"), (1, .class_ 115), (1, u "java/util/Arrays$LegacyMergeSort"), (1, u "Z"), (32, .methodref 151 152), (0, .class_ 153), (0, .nameAndType 154 155), (0, u "java/lang/System"), (0, u "arraycopy"), (0, u "(Ljava/lang/Object;ILjava/lang/Object;II)V"), (144, .methodref 14 301), (0, .nameAndType 302 303), (0, u "copyOf"), (0, u "([Ljava/lang/Object;ILjava/lang/Class;)[Ljava/lang/Object;"), (0, .methodref 305 306), (0, .class_ 307), (0, .nameAndType 308 309), (0, u "java/lang/Math"), (0, u "min"), (0, u "(II)I"), (65, .class_ 376), (0, u "java/util/Arrays$ArrayList"), (68, u "$assertionsDisabled"), (269, u "MIN_ARRAY_SORT_GRAN"), (0, u "I"), (2, u "INSERTIONSORT_THRESHOLD"), (140, u "([Ljava/lang/Object;I)[Ljava/lang/Object;"), (114, .class_ 976), (0, u "java/util/Arrays$ArrayItr")] 52

def k22m0 : Method := { name := "<init>", desc := "()V", sig := { parameters := [], returnType := none }, accessFlags := 2, code := none }
def k22c1 : Code := { maxStack := 3, maxLocals := 2, code := jdk_65_method_119_code, exceptionTable := #[], attributes := #[] }
def k22m1 : Method := { name := "copyOf", desc := "([Ljava/lang/Object;I)[Ljava/lang/Object;", sig := { parameters := [(.array (.object "java/lang/Object")), .int], returnType := some (.array (.object "java/lang/Object")) }, accessFlags := 9, code := some k22c1 }
def k22c2 : Code := { maxStack := 6, maxLocals := 4, code := jdk_65_method_120_code, exceptionTable := #[], attributes := #[] }
def k22m2 : Method := { name := "copyOf", desc := "([Ljava/lang/Object;ILjava/lang/Class;)[Ljava/lang/Object;", sig := { parameters := [(.array (.object "java/lang/Object")), .int, (.object "java/lang/Class")], returnType := some (.array (.object "java/lang/Object")) }, accessFlags := 9, code := some k22c2 }
/-- java/util/Arrays -/
def k22 : Class := { plain "java/util/Arrays" (some 0) with
  accessFlags := 49
  interfaces := #[]
  cf := some (fileOf pool22 14 #[.nestMembers #[975, 375, 113, 74]] #[{ accessFlags := 2, nameIndex := 5, descriptorIndex := 6, attributes := #[] }, { accessFlags := 9, nameIndex := 302, descriptorIndex := 860, attributes := #[] }, { accessFlags := 9, nameIndex := 302, descriptorIndex := 303, attributes := #[] }] 49 2 #[] #[{ accessFlags := 26, nameIndex := 715, descriptorIndex := 716, attributes := #[] }, { accessFlags := 26, nameIndex := 719, descriptorIndex := 716, attributes := #[] }, { accessFlags := 4120, nameIndex := 445, descriptorIndex := 117, attributes := #[] }])
  fields := #[{ name := "MIN_ARRAY_SORT_GRAN", type := .int, accessFlags := 26, slot := 0, constantValue := 0 }, { name := "INSERTIONSORT_THRESHOLD", type := .int, accessFlags := 26, slot := 1, constantValue := 0 }, { name := "$assertionsDisabled", type := .boolean, accessFlags := 4120, slot := 2, constantValue := 0 }]
  methods := #[k22m0, k22m1, k22m2]
  instanceTypes := #[]
  staticTypes := #[.int, .int, .boolean]
  resolved := Array.replicate 1029 none
  statics := none }

def pool23 : Array CpInfo := pool [(1, u "java/lang/Class"), (0, .class_ 1), (0, u "java/lang/Object"), (0, .class_ 3)] 3

/-- java/lang/Class -/
def k23 : Class := { plain "java/lang/Class" (some 0) with
  accessFlags := 49
  interfaces := #[]
  cf := some (fileOf pool23 2 #[] #[] 49 4 #[] #[])
  fields := #[]
  methods := #[]
  instanceTypes := #[]
  staticTypes := #[]
  resolved := Array.replicate 8 none
  statics := none }

/-- the primitive byte -/
def k24 : Class := { plain "byte" none with kind := .primitive 'B', accessFlags := 0x411 }
/-- [B -/
def k25 : Class := { plain "[B" (some 0) with kind := .array 24 .byte, interfaces := #[14, 15], accessFlags := 1041 }

/-- the primitive int -/
def k26 : Class := { plain "int" none with kind := .primitive 'I', accessFlags := 0x411 }
/-- [I -/
def k27 : Class := { plain "[I" (some 0) with kind := .array 26 .int, interfaces := #[14, 15], accessFlags := 1041 }

/-- [Ljava/lang/Object; -/
def k28 : Class := { plain "[Ljava/lang/Object;" (some 0) with mirror := some 1, kind := .array 0 (.object "java/lang/Object"), interfaces := #[14, 15], accessFlags := 1041 }

def heap : Heap := #[{ cls := 16, slots := #[.long 0, .int 0, .ref 2, .ref 3], vm := .statics 16 },
  { cls := 23, slots := #[], vm := .mirror 28 },
  { cls := 28, slots := #[], vm := .none },
  { cls := 28, slots := #[], vm := .none }]
def classes : Array Class := #[k0, k1, k2, k3, k4, k5, k6, k7, k8, k9, k10, k11, k12, k13, k14, k15, k16, k17, k18, k19, k20, k21, k22, k23, k24, k25, k26, k27, k28]
def interned : List (Array UInt16 × Addr) := []
def slotsUsed : Nat := 4
def theMethod : MethodId := ⟨1, 1⟩
def args0 : Array Value := #[.int 1, .int 2, .int 3, .int 4, .int 5]
def aboutOver (below : List Frame) : State where
  vm := { classes := classes, interned := interned.toArray }
  heap := heap
  slotsUsed := slotsUsed
  threads := #[{ frames := .invoking theMethod args0 :: below }]
def below0 : List Frame := [.native { method := ⟨0, 0⟩, args := #[] }]
def about1 : State := aboutOver below0
def p0 : Program := .bare "" "" ""
def e0 : Env := launch0.env 0 0 0
theorem w_frames : about1.frames = Frame.invoking theMethod args0 :: below0 := rfl
set_option maxRecDepth 65536 in
theorem w_args : argsFit about1.vm theMethod args0 = true := by decide +kernel
set_option maxRecDepth 65536 in
theorem w_heap : heapFits about1 = true := by decide +kernel
set_option maxRecDepth 65536 in
theorem w_runnable : about1.curStatus? = some .runnable := by decide +kernel
set_option maxRecDepth 65536 in
theorem w_alone : about1.alone = true := by decide +kernel
set_option maxRecDepth 65536 in
theorem w_named : about1.methodNamed? x = some theMethod := by decide +kernel
set_option maxRecDepth 65536 in
theorem w_hears : about1.hears theMethod below0 = true := by decide +kernel
set_option maxRecDepth 65536 in
theorem w_ripe : about1.ripe theMethod args0 below0 = true := by decide +kernel
theorem w_running : about1.status = .running := rfl
set_option maxRecDepth 65536 in
theorem w_room : about1.hasRoom e0.platform room_1 = true :=
  launch0.hasRoom_least _ room_1 (by decide +kernel) (by decide +kernel) (by decide +kernel) (by decide +kernel) (by decide +kernel) (by decide +kernel)
theorem allAtoms_all (ts : List Jvm.Cond) (a : Array Jvm.Value) (st : Jvm.State) : (allAtoms ts).before a st = ts.all (fun c => c.before a st) := by
  induction ts with
  | nil => rfl
  | cons c t ih =>
    show (Jvm.Cond.and c (allAtoms t)).before a st = _
    rw [Jvm.Cond.before_and, ih, List.all_cons]
def words1 : List Jvm.Cond := Jvm.Cond.code x code maxLocals ret :: tables_1
/-- a 'code' word, met by the world's own term for the bytes: nothing is compared byte by byte -/
theorem code_word {y : MethodName} {bytes : ByteArray} {mx : Nat} {rt : Option FieldType} {a : Array Value} {s : State} {m : MethodId} {meth : Method} {c : Code} (h1 : s.methodNamed? y = some m) (h2 : s.vm.method? m = some meth) (h3 : meth.code = some c) (h4 : c.code = bytes)
    (h5 : (c.maxLocals == mx && c.exceptionTable.isEmpty && decide (c.maxStack ≤ mostOperands) && decide (meth.sig.returnType = rt) && !meth.locks && decide (parseMethodDescriptor y.desc = some meth.sig)) = true) : (Jvm.Cond.code y bytes mx rt).before a s = true := by
  simp only [Bool.and_eq_true, beq_iff_eq, Bool.not_eq_true', decide_eq_true_eq] at h5
  obtain ⟨⟨⟨⟨⟨g1, g2⟩, g3⟩, g4⟩, g5⟩, g6⟩ := h5
  simp [Cond.before, Cond.holds, Cond.value, h1, h2, h3, h4, g1, g2, g3, g4, g5, g6]
def isCode : Jvm.Cond → Bool
  | .code _ _ _ _ => true
  | _ => false
theorem all_split {L : List Jvm.Cond} {P : Jvm.Cond → Bool} (h1 : L.all (fun c => isCode c || P c) = true) (h2 : ∀ c ∈ L.filter isCode, P c = true) : L.all P = true := by
  refine List.all_eq_true.mpr fun c hc => ?_
  have h := List.all_eq_true.mp h1 c hc
  rcases Bool.eq_false_or_eq_true (isCode c) with hi | hi
  · exact h2 c (List.mem_filter.mpr ⟨hc, hi⟩)
  · simpa [hi] using h
set_option maxRecDepth 65536 in
theorem w_c0 : (Jvm.Cond.code x code maxLocals ret).before args0 about1 = true := code_word (m := ⟨1, 1⟩) (meth := k1m1) (c := k1c1) (by decide +kernel) rfl rfl rfl (by decide +kernel)
set_option maxRecDepth 65536 in
theorem w_c1 : (Jvm.Cond.code ({ cls := "com/example/cotab/cotab/ChunkedBytes", name := "<init>", desc := "(I)V" } : Jvm.MethodName) prog_2_method_1_code (2 : Nat) (Option.none : Option Jvm.ClassFile.FieldType)).before args0 about1 = true := code_word (m := ⟨6, 0⟩) (meth := k6m0) (c := k6c0) (by decide +kernel) rfl rfl rfl (by decide +kernel)
set_option maxRecDepth 65536 in
theorem w_c2 : (Jvm.Cond.code ({ cls := "java/io/OutputStream", name := "<init>", desc := "()V" } : Jvm.MethodName) jdk_2038_method_1_code (1 : Nat) (Option.none : Option Jvm.ClassFile.FieldType)).before args0 about1 = true := code_word (m := ⟨5, 0⟩) (meth := k5m0) (c := k5c0) (by decide +kernel) rfl rfl rfl (by decide +kernel)
set_option maxRecDepth 65536 in
theorem w_c3 : (Jvm.Cond.code ({ cls := "java/lang/Object", name := "<init>", desc := "()V" } : Jvm.MethodName) object_method_1_code (1 : Nat) (Option.none : Option Jvm.ClassFile.FieldType)).before args0 about1 = true := code_word (m := ⟨0, 0⟩) (meth := k0m0) (c := k0c0) (by decide +kernel) rfl rfl rfl (by decide +kernel)
set_option maxRecDepth 65536 in
theorem w_c4 : (Jvm.Cond.code ({ cls := "java/util/ArrayList", name := "<init>", desc := "()V" } : Jvm.MethodName) jdk_38_method_2_code (1 : Nat) (Option.none : Option Jvm.ClassFile.FieldType)).before args0 about1 = true := code_word (m := ⟨16, 0⟩) (meth := k16m0) (c := k16c0) (by decide +kernel) rfl rfl rfl (by decide +kernel)
set_option maxRecDepth 65536 in
theorem w_c5 : (Jvm.Cond.code ({ cls := "java/util/AbstractList", name := "<init>", desc := "()V" } : Jvm.MethodName) jdk_39_method_1_code (1 : Nat) (Option.none : Option Jvm.ClassFile.FieldType)).before args0 about1 = true := code_word (m := ⟨12, 0⟩) (meth := k12m0) (c := k12c0) (by decide +kernel) rfl rfl rfl (by decide +kernel)
set_option maxRecDepth 65536 in
theorem w_c6 : (Jvm.Cond.code ({ cls := "java/util/AbstractCollection", name := "<init>", desc := "()V" } : Jvm.MethodName) jdk_22_method_1_code (1 : Nat) (Option.none : Option Jvm.ClassFile.FieldType)).before args0 about1 = true := code_word (m := ⟨9, 0⟩) (meth := k9m0) (c := k9c0) (by decide +kernel) rfl rfl rfl (by decide +kernel)
set_option maxRecDepth 65536 in
theorem w_c7 : (Jvm.Cond.code ({ cls := "com/example/cotab/cotab/ChunkedBytes", name := "write", desc := "([BII)V" } : Jvm.MethodName) prog_2_method_5_code (7 : Nat) (Option.none : Option Jvm.ClassFile.FieldType)).before args0 about1 = true := code_word (m := ⟨6, 3⟩) (meth := k6m3) (c := k6c3) (by decide +kernel) rfl rfl rfl (by decide +kernel)
set_option maxRecDepth 65536 in
theorem w_c8 : (Jvm.Cond.code ({ cls := "com/example/cotab/cotab/ChunkedBytes", name := "room", desc := "()I" } : Jvm.MethodName) prog_2_method_9_code (2 : Nat) (Option.some Jvm.ClassFile.FieldType.int)).before args0 about1 = true := code_word (m := ⟨6, 5⟩) (meth := k6m5) (c := k6c5) (by decide +kernel) rfl rfl rfl (by decide +kernel)
set_option maxRecDepth 65536 in
theorem w_c9 : (Jvm.Cond.code ({ cls := "java/util/ArrayList", name := "size", desc := "()I" } : Jvm.MethodName) jdk_38_method_8_code (1 : Nat) (Option.some Jvm.ClassFile.FieldType.int)).before args0 about1 = true := code_word (m := ⟨16, 3⟩) (meth := k16m3) (c := k16c3) (by decide +kernel) rfl rfl rfl (by decide +kernel)
set_option maxRecDepth 65536 in
theorem w_c10 : (Jvm.Cond.code ({ cls := "java/util/ArrayList", name := "add", desc := "(Ljava/lang/Object;)Z" } : Jvm.MethodName) jdk_38_method_25_code (2 : Nat) (Option.some Jvm.ClassFile.FieldType.boolean)).before args0 about1 = true := code_word (m := ⟨16, 7⟩) (meth := k16m7) (c := k16c7) (by decide +kernel) rfl rfl rfl (by decide +kernel)
set_option maxRecDepth 65536 in
theorem w_c11 : (Jvm.Cond.code ({ cls := "java/util/ArrayList", name := "add", desc := "(Ljava/lang/Object;[Ljava/lang/Object;I)V" } : Jvm.MethodName) jdk_38_method_24_code (4 : Nat) (Option.none : Option Jvm.ClassFile.FieldType)).before args0 about1 = true := code_word (m := ⟨16, 6⟩) (meth := k16m6) (c := k16c6) (by decide +kernel) rfl rfl rfl (by decide +kernel)
set_option maxRecDepth 65536 in
theorem w_c12 : (Jvm.Cond.code ({ cls := "java/util/ArrayList", name := "grow", desc := "()[Ljava/lang/Object;" } : Jvm.MethodName) jdk_38_method_7_code (1 : Nat) (Option.some (Jvm.ClassFile.FieldType.array (Jvm.ClassFile.FieldType.object "java/lang/Object")))).before args0 about1 = true := code_word (m := ⟨16, 2⟩) (meth := k16m2) (c := k16c2) (by decide +kernel) rfl rfl rfl (by decide +kernel)
set_option maxRecDepth 65536 in
theorem w_c13 : (Jvm.Cond.code ({ cls := "java/util/ArrayList", name := "grow", desc := "(I)[Ljava/lang/Object;" } : Jvm.MethodName) jdk_38_method_6_code (4 : Nat) (Option.some (Jvm.ClassFile.FieldType.array (Jvm.ClassFile.FieldType.object "java/lang/Object")))).before args0 about1 = true := code_word (m := ⟨16, 1⟩) (meth := k16m1) (c := k16c1) (by decide +kernel) rfl rfl rfl (by decide +kernel)
set_option maxRecDepth 65536 in
theorem w_c14 : (Jvm.Cond.code ({ cls := "java/lang/Math", name := "max", desc := "(II)I" } : Jvm.MethodName) jdk_29_method_65_code (2 : Nat) (Option.some Jvm.ClassFile.FieldType.int)).before args0 about1 = true := code_word (m := ⟨17, 1⟩) (meth := k17m1) (c := k17c1) (by decide +kernel) rfl rfl rfl (by decide +kernel)
set_option maxRecDepth 65536 in
theorem w_c15 : (Jvm.Cond.code ({ cls := "java/lang/Math", name := "min", desc := "(II)I" } : Jvm.MethodName) jdk_29_method_69_code (2 : Nat) (Option.some Jvm.ClassFile.FieldType.int)).before args0 about1 = true := code_word (m := ⟨17, 2⟩) (meth := k17m2) (c := k17c2) (by decide +kernel) rfl rfl rfl (by decide +kernel)
set_option maxRecDepth 65536 in
theorem w_c16 : (Jvm.Cond.code ({ cls := "java/util/ArrayList", name := "get", desc := "(I)Ljava/lang/Object;" } : Jvm.MethodName) jdk_38_method_20_code (2 : Nat) (Option.some (Jvm.ClassFile.FieldType.object "java/lang/Object"))).before args0 about1 = true := code_word (m := ⟨16, 5⟩) (meth := k16m5) (c := k16c5) (by decide +kernel) rfl rfl rfl (by decide +kernel)
set_option maxRecDepth 65536 in
theorem w_c17 : (Jvm.Cond.code ({ cls := "java/util/Objects", name := "checkIndex", desc := "(II)I" } : Jvm.MethodName) jdk_31_method_17_code (2 : Nat) (Option.some Jvm.ClassFile.FieldType.int)).before args0 about1 = true := code_word (m := ⟨18, 1⟩) (meth := k18m1) (c := k18c1) (by decide +kernel) rfl rfl rfl (by decide +kernel)
set_option maxRecDepth 65536 in
theorem w_c18 : (Jvm.Cond.code ({ cls := "jdk/internal/util/Preconditions", name := "checkIndex", desc := "(IILjava/util/function/BiFunction;)I" } : Jvm.MethodName) jdk_41_method_11_code (3 : Nat) (Option.some Jvm.ClassFile.FieldType.int)).before args0 about1 = true := code_word (m := ⟨19, 1⟩) (meth := k19m1) (c := k19c1) (by decide +kernel) rfl rfl rfl (by decide +kernel)
set_option maxRecDepth 65536 in
theorem w_c19 : (Jvm.Cond.code ({ cls := "java/util/ArrayList", name := "elementData", desc := "(I)Ljava/lang/Object;" } : Jvm.MethodName) jdk_38_method_18_code (2 : Nat) (Option.some (Jvm.ClassFile.FieldType.object "java/lang/Object"))).before args0 about1 = true := code_word (m := ⟨16, 4⟩) (meth := k16m4) (c := k16c4) (by decide +kernel) rfl rfl rfl (by decide +kernel)
set_option maxRecDepth 65536 in
theorem w_c20 : (Jvm.Cond.code ({ cls := "com/example/cotab/cotab/ChunkedBytes", name := "size", desc := "()I" } : Jvm.MethodName) prog_2_method_2_code (1 : Nat) (Option.some Jvm.ClassFile.FieldType.int)).before args0 about1 = true := code_word (m := ⟨6, 1⟩) (meth := k6m1) (c := k6c1) (by decide +kernel) rfl rfl rfl (by decide +kernel)
set_option maxRecDepth 65536 in
theorem w_c21 : (Jvm.Cond.code ({ cls := "com/example/cotab/cotab/ChunkedBytes", name := "clear", desc := "()V" } : Jvm.MethodName) prog_2_method_8_code (1 : Nat) (Option.none : Option Jvm.ClassFile.FieldType)).before args0 about1 = true := code_word (m := ⟨6, 4⟩) (meth := k6m4) (c := k6c4) (by decide +kernel) rfl rfl rfl (by decide +kernel)
set_option maxRecDepth 65536 in
theorem w_c22 : (Jvm.Cond.code ({ cls := "java/util/ArrayList", name := "clear", desc := "()V" } : Jvm.MethodName) jdk_38_method_40_code (4 : Nat) (Option.none : Option Jvm.ClassFile.FieldType)).before args0 about1 = true := code_word (m := ⟨16, 8⟩) (meth := k16m8) (c := k16c8) (by decide +kernel) rfl rfl rfl (by decide +kernel)
set_option maxRecDepth 65536 in
theorem w_c23 : (Jvm.Cond.code ({ cls := "com/example/cotab/cotab/ChunkedBytes", name := "write", desc := "(I)V" } : Jvm.MethodName) prog_2_method_4_code (3 : Nat) (Option.none : Option Jvm.ClassFile.FieldType)).before args0 about1 = true := code_word (m := ⟨6, 2⟩) (meth := k6m2) (c := k6c2) (by decide +kernel) rfl rfl rfl (by decide +kernel)
set_option maxRecDepth 65536 in
theorem w_c24 : (Jvm.Cond.code ({ cls := "jdk/internal/util/ArraysSupport", name := "newLength", desc := "(III)I" } : Jvm.MethodName) jdk_48_method_27_code (4 : Nat) (Option.some Jvm.ClassFile.FieldType.int)).before args0 about1 = true := code_word (m := ⟨21, 1⟩) (meth := k21m1) (c := k21c1) (by decide +kernel) rfl rfl rfl (by decide +kernel)
set_option maxRecDepth 65536 in
theorem w_c25 : (Jvm.Cond.code ({ cls := "java/util/Arrays", name := "copyOf", desc := "([Ljava/lang/Object;I)[Ljava/lang/Object;" } : Jvm.MethodName) jdk_65_method_119_code (2 : Nat) (Option.some (Jvm.ClassFile.FieldType.array (Jvm.ClassFile.FieldType.object "java/lang/Object")))).before args0 about1 = true := code_word (m := ⟨22, 1⟩) (meth := k22m1) (c := k22c1) (by decide +kernel) rfl rfl rfl (by decide +kernel)
set_option maxRecDepth 65536 in
theorem w_c26 : (Jvm.Cond.code ({ cls := "java/util/Arrays", name := "copyOf", desc := "([Ljava/lang/Object;ILjava/lang/Class;)[Ljava/lang/Object;" } : Jvm.MethodName) jdk_65_method_120_code (4 : Nat) (Option.some (Jvm.ClassFile.FieldType.array (Jvm.ClassFile.FieldType.object "java/lang/Object")))).before args0 about1 = true := code_word (m := ⟨22, 2⟩) (meth := k22m2) (c := k22c2) (by decide +kernel) rfl rfl rfl (by decide +kernel)
def codes1 : List Jvm.Cond := [Jvm.Cond.code x code maxLocals ret, Jvm.Cond.code ({ cls := "com/example/cotab/cotab/ChunkedBytes", name := "<init>", desc := "(I)V" } : Jvm.MethodName) prog_2_method_1_code (2 : Nat) (Option.none : Option Jvm.ClassFile.FieldType), Jvm.Cond.code ({ cls := "java/io/OutputStream", name := "<init>", desc := "()V" } : Jvm.MethodName) jdk_2038_method_1_code (1 : Nat) (Option.none : Option Jvm.ClassFile.FieldType), Jvm.Cond.code ({ cls := "java/lang/Object", name := "<init>", desc := "()V" } : Jvm.MethodName) object_method_1_code (1 : Nat) (Option.none : Option Jvm.ClassFile.FieldType), Jvm.Cond.code ({ cls := "java/util/ArrayList", name := "<init>", desc := "()V" } : Jvm.MethodName) jdk_38_method_2_code (1 : Nat) (Option.none : Option Jvm.ClassFile.FieldType), Jvm.Cond.code ({ cls := "java/util/AbstractList", name := "<init>", desc := "()V" } : Jvm.MethodName) jdk_39_method_1_code (1 : Nat) (Option.none : Option Jvm.ClassFile.FieldType), Jvm.Cond.code ({ cls := "java/util/AbstractCollection", name := "<init>", desc := "()V" } : Jvm.MethodName) jdk_22_method_1_code (1 : Nat) (Option.none : Option Jvm.ClassFile.FieldType), Jvm.Cond.code ({ cls := "com/example/cotab/cotab/ChunkedBytes", name := "write", desc := "([BII)V" } : Jvm.MethodName) prog_2_method_5_code (7 : Nat) (Option.none : Option Jvm.ClassFile.FieldType), Jvm.Cond.code ({ cls := "com/example/cotab/cotab/ChunkedBytes", name := "room", desc := "()I" } : Jvm.MethodName) prog_2_method_9_code (2 : Nat) (Option.some Jvm.ClassFile.FieldType.int), Jvm.Cond.code ({ cls := "java/util/ArrayList", name := "size", desc := "()I" } : Jvm.MethodName) jdk_38_method_8_code (1 : Nat) (Option.some Jvm.ClassFile.FieldType.int), Jvm.Cond.code ({ cls := "java/util/ArrayList", name := "add", desc := "(Ljava/lang/Object;)Z" } : Jvm.MethodName) jdk_38_method_25_code (2 : Nat) (Option.some Jvm.ClassFile.FieldType.boolean), Jvm.Cond.code ({ cls := "java/util/ArrayList", name := "add", desc := "(Ljava/lang/Object;[Ljava/lang/Object;I)V" } : Jvm.MethodName) jdk_38_method_24_code (4 : Nat) (Option.none : Option Jvm.ClassFile.FieldType), Jvm.Cond.code ({ cls := "java/util/ArrayList", name := "grow", desc := "()[Ljava/lang/Object;" } : Jvm.MethodName) jdk_38_method_7_code (1 : Nat) (Option.some (Jvm.ClassFile.FieldType.array (Jvm.ClassFile.FieldType.object "java/lang/Object"))), Jvm.Cond.code ({ cls := "java/util/ArrayList", name := "grow", desc := "(I)[Ljava/lang/Object;" } : Jvm.MethodName) jdk_38_method_6_code (4 : Nat) (Option.some (Jvm.ClassFile.FieldType.array (Jvm.ClassFile.FieldType.object "java/lang/Object"))), Jvm.Cond.code ({ cls := "java/lang/Math", name := "max", desc := "(II)I" } : Jvm.MethodName) jdk_29_method_65_code (2 : Nat) (Option.some Jvm.ClassFile.FieldType.int), Jvm.Cond.code ({ cls := "java/lang/Math", name := "min", desc := "(II)I" } : Jvm.MethodName) jdk_29_method_69_code (2 : Nat) (Option.some Jvm.ClassFile.FieldType.int), Jvm.Cond.code ({ cls := "java/util/ArrayList", name := "get", desc := "(I)Ljava/lang/Object;" } : Jvm.MethodName) jdk_38_method_20_code (2 : Nat) (Option.some (Jvm.ClassFile.FieldType.object "java/lang/Object")), Jvm.Cond.code ({ cls := "java/util/Objects", name := "checkIndex", desc := "(II)I" } : Jvm.MethodName) jdk_31_method_17_code (2 : Nat) (Option.some Jvm.ClassFile.FieldType.int), Jvm.Cond.code ({ cls := "jdk/internal/util/Preconditions", name := "checkIndex", desc := "(IILjava/util/function/BiFunction;)I" } : Jvm.MethodName) jdk_41_method_11_code (3 : Nat) (Option.some Jvm.ClassFile.FieldType.int), Jvm.Cond.code ({ cls := "java/util/ArrayList", name := "elementData", desc := "(I)Ljava/lang/Object;" } : Jvm.MethodName) jdk_38_method_18_code (2 : Nat) (Option.some (Jvm.ClassFile.FieldType.object "java/lang/Object")), Jvm.Cond.code ({ cls := "com/example/cotab/cotab/ChunkedBytes", name := "size", desc := "()I" } : Jvm.MethodName) prog_2_method_2_code (1 : Nat) (Option.some Jvm.ClassFile.FieldType.int), Jvm.Cond.code ({ cls := "com/example/cotab/cotab/ChunkedBytes", name := "clear", desc := "()V" } : Jvm.MethodName) prog_2_method_8_code (1 : Nat) (Option.none : Option Jvm.ClassFile.FieldType), Jvm.Cond.code ({ cls := "java/util/ArrayList", name := "clear", desc := "()V" } : Jvm.MethodName) jdk_38_method_40_code (4 : Nat) (Option.none : Option Jvm.ClassFile.FieldType), Jvm.Cond.code ({ cls := "com/example/cotab/cotab/ChunkedBytes", name := "write", desc := "(I)V" } : Jvm.MethodName) prog_2_method_4_code (3 : Nat) (Option.none : Option Jvm.ClassFile.FieldType), Jvm.Cond.code ({ cls := "jdk/internal/util/ArraysSupport", name := "newLength", desc := "(III)I" } : Jvm.MethodName) jdk_48_method_27_code (4 : Nat) (Option.some Jvm.ClassFile.FieldType.int), Jvm.Cond.code ({ cls := "java/util/Arrays", name := "copyOf", desc := "([Ljava/lang/Object;I)[Ljava/lang/Object;" } : Jvm.MethodName) jdk_65_method_119_code (2 : Nat) (Option.some (Jvm.ClassFile.FieldType.array (Jvm.ClassFile.FieldType.object "java/lang/Object"))), Jvm.Cond.code ({ cls := "java/util/Arrays", name := "copyOf", desc := "([Ljava/lang/Object;ILjava/lang/Class;)[Ljava/lang/Object;" } : Jvm.MethodName) jdk_65_method_120_code (4 : Nat) (Option.some (Jvm.ClassFile.FieldType.array (Jvm.ClassFile.FieldType.object "java/lang/Object")))]
set_option maxRecDepth 65536 in
theorem codes_eq : words1.filter isCode = codes1 := rfl
theorem w_codes : ∀ c ∈ words1.filter isCode, c.before args0 about1 = true := by
  rw [codes_eq]
  intro c hc
  simp only [codes1, List.mem_cons, List.not_mem_nil, or_false] at hc
  rcases hc with rfl | rfl | rfl | rfl | rfl | rfl | rfl | rfl | rfl | rfl | rfl | rfl | rfl | rfl | rfl | rfl | rfl | rfl | rfl | rfl | rfl | rfl | rfl | rfl | rfl | rfl | rfl
  · exact w_c0
  · exact w_c1
  · exact w_c2
  · exact w_c3
  · exact w_c4
  · exact w_c5
  · exact w_c6
  · exact w_c7
  · exact w_c8
  · exact w_c9
  · exact w_c10
  · exact w_c11
  · exact w_c12
  · exact w_c13
  · exact w_c14
  · exact w_c15
  · exact w_c16
  · exact w_c17
  · exact w_c18
  · exact w_c19
  · exact w_c20
  · exact w_c21
  · exact w_c22
  · exact w_c23
  · exact w_c24
  · exact w_c25
  · exact w_c26
set_option maxRecDepth 65536 in
theorem w_t1 : (words1.take 24).all (fun c => isCode c || c.before args0 about1) = true := by decide +kernel
set_option maxRecDepth 65536 in
theorem w_t2 : ((words1.drop 24).take 24).all (fun c => isCode c || c.before args0 about1) = true := by decide +kernel
set_option maxRecDepth 65536 in
theorem w_t3 : (((words1.drop 24).drop 24).take 24).all (fun c => isCode c || c.before args0 about1) = true := by decide +kernel
set_option maxRecDepth 65536 in
theorem w_t4 : ((((words1.drop 24).drop 24).drop 24).take 24).all (fun c => isCode c || c.before args0 about1) = true := by decide +kernel
set_option maxRecDepth 65536 in
theorem w_t5 : (((((words1.drop 24).drop 24).drop 24).drop 24).take 24).all (fun c => isCode c || c.before args0 about1) = true := by decide +kernel
set_option maxRecDepth 65536 in
theorem w_t6 : ((((((words1.drop 24).drop 24).drop 24).drop 24).drop 24).take 24).all (fun c => isCode c || c.before args0 about1) = true := by decide +kernel
set_option maxRecDepth 65536 in
theorem w_t7 : (((((((words1.drop 24).drop 24).drop 24).drop 24).drop 24).drop 24).take 24).all (fun c => isCode c || c.before args0 about1) = true := by decide +kernel
set_option maxRecDepth 65536 in
theorem w_t8 : (((((((words1.drop 24).drop 24).drop 24).drop 24).drop 24).drop 24).drop 24).all (fun c => isCode c || c.before args0 about1) = true := by decide +kernel
theorem w_tables : (allAtoms (Jvm.Cond.code x code maxLocals ret :: tables_1)).before args0 about1 = true := by
  rw [allAtoms_all]
  show words1.all (fun c => c.before args0 about1) = true
  refine all_split ?_ w_codes
  rw [← List.take_append_drop 24 words1, List.all_append, w_t1, ← List.take_append_drop 24 (words1.drop 24), List.all_append, w_t2, ← List.take_append_drop 24 ((words1.drop 24).drop 24), List.all_append, w_t3, ← List.take_append_drop 24 (((words1.drop 24).drop 24).drop 24), List.all_append, w_t4, ← List.take_append_drop 24 ((((words1.drop 24).drop 24).drop 24).drop 24), List.all_append, w_t5, ← List.take_append_drop 24 (((((words1.drop 24).drop 24).drop 24).drop 24).drop 24), List.all_append, w_t6, ← List.take_append_drop 24 ((((((words1.drop 24).drop 24).drop 24).drop 24).drop 24).drop 24), List.all_append, w_t7, w_t8]
  rfl
set_option maxRecDepth 65536 in
theorem w_rest : rest_1_c.before args0 about1 = true := by decide +kernel
set_option maxRecDepth 65536 in
theorem w_case : (Jvm.Cond.and given_1 narrow_1).before args0 about1 = true := by decide +kernel
theorem w_applies : (headSpec (Jvm.Cond.code x code maxLocals ret :: tables_1) room_1).applies x e0.platform about1 = true :=
  (Spec.applies_iff w_frames).mpr ⟨w_running, w_runnable, w_alone, w_named, w_hears, w_ripe, w_room, w_tables⟩
theorem atStart : AtStart classFile x code maxLocals ret World_1 tables_1 room_1 Calls_1 rest_1 Pre_1 launch0 p0 e0 about1 theMethod args0 below0 :=
  ⟨lists_1, trivial, launch0.admits_env _ _ _, launch0.least_env, fairChoices_fair.cas, fairChoices_fair.clock, w_frames, w_args, w_heap, w_applies, ⟨⟨28, k28, 1, by decide +kernel, rfl, rfl, _, rfl, rfl⟩, trivial⟩, w_rest, w_case⟩
end start1
theorem witness_1 : WitnessClaimed_1 := ⟨start1.p0, start1.e0, start1.about1, start1.theMethod, start1.args0, start1.below0, start1.atStart⟩
end Jvm.Pilot.@@N@@
