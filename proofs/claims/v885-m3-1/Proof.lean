import JvmDerived
import JvmDerived.Pilot.@@N@@Statement
import JvmDerived.Pilot.@@N@@Code
set_option linter.unusedVariables false
set_option linter.unusedSimpArgs false
namespace Jvm.GoKit
open Sem ClassFile Op Lib Jvm.Stand Jvm.Free Jvm.LawKit Jvm.RoadKit
/-! The walk as a backward predicate over a small abstract machine: refs count the cells made since the law began. -/
abbrev GCell := (String × List (String × String × Value)) ⊕ (FieldType × List Value)
abbrev ob (C : String) (fs : List (String × String × Value)) : GCell := Sum.inl (C, fs)
abbrev ar (t : FieldType) (vs : List Value) : GCell := Sum.inr (t, vs)
def upV (b : Nat) : Value → Value
  | .ref k => .ref (b + k)
  | .int x => .int x
  | .long x => .long x
  | .float x => .float x
  | .double x => .double x
  | .null => .null
  | .retAddr x => .retAddr x
def upS (b : Nat) : Slot → Slot
  | .val v => .val (upV b v)
  | .unset => .unset
  | .second => .second
theorem cat_up (b : Nat) (v : Value) : (upV b v).category = v.category := by cases v <;> rfl
theorem isRef_up (b : Nat) (v : Value) : (upV b v).isRef = v.isRef := by cases v <;> rfl
def CellOk (Z : State) (a0 : Array Value) (b : Nat) (h : Heap) (a : Addr) : GCell → Prop
  | Sum.inl (C, fs) => Exa Z h a C ∧ (∀ f ∈ fs, Fld Z h a C f.1 f.2.1 (upV b f.2.2) ∧ Laid Z a0 C C f.1 f.2.1 ∧ ∃ t, parseFieldDescriptor f.2.1 = some t) ∧ (fs.map (·.1)).Nodup
  | Sum.inr (ty, vs) => ∃ c : Cell, Arr Z h a c ty ∧ c.slots = (vs.map (upV b)).toArray
def Rel (Z : State) (a0 : Array Value) (b : Nat) (H : List GCell) (h : Heap) : Prop :=
  h.size = b + H.length ∧ ∀ (i : Nat) (mc : GCell), H[i]? = some mc → CellOk Z a0 b h (b + i) mc
section Rels
variable {Z : State} {a0 : Array Value} {b : Nat} {H : List GCell} {h h' : Heap} {a a' : Addr} {sl : Nat} {v : Value} {mc : GCell}
theorem CellOk.ext (E : Ext h h') (K : CellOk Z a0 b h a mc) : CellOk Z a0 b h' a mc := by
  rcases mc with ⟨C, fs⟩ | ⟨ty, vs⟩
  · obtain ⟨k1, k2, k3⟩ := K
    exact ⟨k1.ext E, fun f hf => ⟨(k2 f hf).1.ext E, (k2 f hf).2⟩, k3⟩
  · obtain ⟨c, A, e⟩ := K
    exact ⟨c, A.ext E, e⟩
theorem CellOk.other (W : Wr h h' a sl v) (ne : a' ≠ a) (K : CellOk Z a0 b h a' mc) : CellOk Z a0 b h' a' mc := by
  rcases mc with ⟨C, fs⟩ | ⟨ty, vs⟩
  · obtain ⟨k1, k2, k3⟩ := K
    exact ⟨k1.wr W, fun f hf => ⟨(k2 f hf).1.other W (Or.inl ne), (k2 f hf).2⟩, k3⟩
  · obtain ⟨c, A, e⟩ := K
    exact ⟨c, A.other W ne, e⟩
theorem Rel.nil (h : Heap) : Rel Z a0 h.size [] h := ⟨rfl, fun (i : Nat) mc q => by simp at q⟩
theorem Rel.push (RR : Rel Z a0 b H h) (E : Ext h h') (hs : h'.size = h.size + 1) (K : CellOk Z a0 b h' (b + H.length) mc) : Rel Z a0 b (H ++ [mc]) h' := by
  refine ⟨by rw [hs, RR.1]; simp; omega, fun (i : Nat) mc' q => ?_⟩
  rw [List.getElem?_append] at q
  split at q
  · exact (RR.2 i mc' q).ext E
  · rename_i hi
    have e : i = H.length := by
      by_cases e : i - H.length = 0
      · omega
      · rw [List.getElem?_eq_none (by simp; omega)] at q; cases q
    subst e
    simp at q
    exact q ▸ K
theorem Rel.wr (RR : Rel Z a0 b H h) {i : Nat} (W : Wr h h' (b + i) sl v) (K : CellOk Z a0 b h' (b + i) mc) : Rel Z a0 b (H.set i mc) h' := by
  refine ⟨by rw [W.size, RR.1]; simp, fun (j : Nat) mc' q => ?_⟩
  rw [List.getElem?_set] at q
  split at q
  · rename_i e
    subst e
    split at q
    · cases q; exact K
    · cases q
  · rename_i e
    exact (RR.2 j mc' q).other W (fun z => e (Nat.add_left_cancel z).symm)
theorem mem_setF {n d : String} {o : Value} : ∀ (fs : List (String × String × Value)) (j : Nat), (fs.map (·.1)).Nodup → fs[j]? = some (n, d, o) → ∀ f ∈ fs.set j (n, d, v), f = (n, d, v) ∨ (f ∈ fs ∧ f.1 ≠ n)
  | [], _, _, q, _, _ => by simp at q
  | g :: gs, 0, nd, q, f, hf => by
    simp only [List.getElem?_cons_zero, Option.some.injEq] at q
    subst q
    simp only [List.map_cons, List.nodup_cons] at nd
    simp only [List.set_cons_zero, List.mem_cons] at hf
    rcases hf with rfl | hf
    · exact Or.inl rfl
    · refine Or.inr ⟨List.mem_cons_of_mem _ hf, fun e => nd.1 ?_⟩
      exact List.mem_map.mpr ⟨f, hf, e⟩
  | g :: gs, j + 1, nd, q, f, hf => by
    simp only [List.getElem?_cons_succ] at q
    simp only [List.map_cons, List.nodup_cons] at nd
    simp only [List.set_cons_succ, List.mem_cons] at hf
    rcases hf with rfl | hf
    · refine Or.inr ⟨List.mem_cons_self .., fun e => nd.1 ?_⟩
      exact List.mem_map.mpr ⟨_, List.mem_of_getElem? q, e.symm⟩
    · rcases mem_setF gs j nd.2 q f hf with e | ⟨e1, e2⟩
      · exact Or.inl e
      · exact Or.inr ⟨List.mem_cons_of_mem _ e1, e2⟩
theorem map_setF {n d : String} {o : Value} : ∀ (fs : List (String × String × Value)) (j : Nat), fs[j]? = some (n, d, o) → (fs.set j (n, d, v)).map (·.1) = fs.map (·.1)
  | [], _, q => by simp at q
  | g :: gs, 0, q => by
    simp only [List.getElem?_cons_zero, Option.some.injEq] at q
    subst q; rfl
  | g :: gs, j + 1, q => by
    simp only [List.getElem?_cons_succ] at q
    simp only [List.set_cons_succ, List.map_cons, map_setF gs j q]
theorem CellOk.fset {C n d : String} {fs : List (String × String × Value)} {j : Nat} {o : Value} (K : CellOk Z a0 b h a (ob C fs)) (q : fs[j]? = some (n, d, o)) (W : Wr h h' a (Jvm.RoadKit.slotOf Z C n d) (upV b v)) : CellOk Z a0 b h' a (ob C (fs.set j (n, d, v))) := by
  obtain ⟨k1, k2, k3⟩ := K
  have m0 := List.mem_of_getElem? q
  obtain ⟨F, L, t, ht⟩ := k2 _ m0
  refine ⟨k1.wr W, fun f hf => ?_, by rw [map_setF fs j q]; exact k3⟩
  rcases mem_setF fs j k3 q f hf with rfl | ⟨e1, e2⟩
  · exact ⟨F.same W, L, t, ht⟩
  · obtain ⟨F', L', t', ht'⟩ := k2 _ e1
    exact ⟨F'.other W (Or.inr (slot_ne L' L e2 ht' ht)), L', t', ht'⟩
end Rels
theorem ne_oa {H : List GCell} {i j : Nat} {C : String} {fs : List (String × String × Value)} {t : FieldType} {vs : List Value} (h1 : H[i]? = some (ob C fs)) (h2 : H[j]? = some (ar t vs)) : i ≠ j := fun e => by subst e; rw [h1] at h2; cases h2
theorem get_ne {H : List GCell} {i j : Nat} {m m' : GCell} (h : H[j]? = some m) (ne : i ≠ j) : (H.set i m')[j]? = some m := by rw [List.getElem?_set_ne ne]; exact h
theorem get_eq {H : List GCell} {i : Nat} {m m' : GCell} (h : H[i]? = some m) : (H.set i m')[i]? = some m' := by
  have := (List.getElem?_eq_some_iff.mp h).1
  simp [this]
theorem get_app {H H2 : List GCell} {i : Nat} {m : GCell} (h : H[i]? = some m) : (H ++ H2)[i]? = some m := by
  have := (List.getElem?_eq_some_iff.mp h).1
  rw [List.getElem?_append_left this]; exact h
theorem get_last {H : List GCell} {m : GCell} : (H ++ [m])[H.length]? = some m := by simp
theorem set_same {α : Type} {l : List α} {k : Nat} {v : α} (h : l[k]? = some v) : l.set k v = l := by
  apply List.ext_getElem?
  intro j
  rw [List.getElem?_set]
  split
  · rename_i e; subst e
    obtain ⟨h1, h2⟩ := List.getElem?_eq_some_iff.mp h
    rw [if_pos h1, h]
  · rfl
def Dc (bytes : ByteArray) (pc : Nat) (i : Instr) (n nx : Nat) : Prop := decode bytes pc = .ok (i, n) ∧ pc + n = nx
theorem wd {W : List Jvm.Cond} {d : Jvm.Cond} (k : Nat) (h : W[k]? = some d) : d ∈ W := List.mem_of_getElem? h
def QQ (Z : State) (a0 : Array Value) (b : Nat) (Post : Option Value → List GCell → Prop) (v : Option Value) (h : Heap) (LL : List Loc) : Prop :=
  Fr b LL ∧ ∃ v' H', v = Option.map (upV b) v' ∧ Rel Z a0 b H' h ∧ Post v' H'
/-- a method's contract over the abstract machine -/
def Met (l : Launch) (Z : State) (a0 : Array Value) (b : Nat) (y : MethodName) (bytes : ByteArray) (maxL : Nat) (ret : Option FieldType) (rm : Room) (as : List Value) (H : List GCell) (Post : Option Value → List GCell → Prop) : Prop :=
  ∀ h, Rel Z a0 b H h → ∀ ws, MetFree l y (head1 (Jvm.Cond.code y bytes maxL ret :: ws) rm) (fun a U => a = (as.map (upV b)).toArray ∧ Z.Warmed39 U.vm ∧ U.heap = h) (fun _ _ _ _ _ => True)
    (fun _ U o U' => ∃ v LL, o = .returned v ∧ QQ Z a0 b Post v U'.heap LL ∧ FrameEnd U o U' LL rm.cells rm.slots)
/-- where a body is walked -/
def Cx (p : Program) (l : Launch) (e : Env) (R : Room) (s : State) (m : MethodId) (args : Array Value) (below : List Frame) (meth : Method) (c : Code) (Z : State) (a0 : Array Value) (W : List Jvm.Cond) (b : Nat) (y : MethodName) (bytes : ByteArray) (nL : Nat) (ret : Option FieldType) (Post : Option Value → List GCell → Prop) : Prop :=
  p.tables.exec = Jvm.exec ∧ Z.Warmed39 s.vm ∧ s.vm.findClass y.cls = some m.cls ∧ c.code = bytes ∧ c.maxLocals = nL ∧ meth.sig.returnType = ret ∧ meth.locks = false ∧ meth.name = y.name ∧ (∀ d ∈ W, d.before a0 Z = true)
section Walk
variable {p : Program} {l : Launch} {e : Env} {R : Room} {s : State} {m : MethodId} {args : Array Value} {below : List Frame} {meth : Method} {c : Code} {Z : State} {a0 : Array Value} {W : List Jvm.Cond} {b : Nat} {y : MethodName} {bytes : ByteArray} {nL : Nat} {ret : Option FieldType} {Post : Option Value → List GCell → Prop}
theorem Cx.exec (C : Cx p l e R s m args below meth c Z a0 W b y bytes nL ret Post) : p.tables.exec = Jvm.exec := C.1
theorem Cx.warm (C : Cx p l e R s m args below meth c Z a0 W b y bytes nL ret Post) : Z.Warmed39 s.vm := C.2.1
theorem Cx.own (C : Cx p l e R s m args below meth c Z a0 W b y bytes nL ret Post) : s.vm.findClass y.cls = some m.cls := C.2.2.1
theorem Cx.bys (C : Cx p l e R s m args below meth c Z a0 W b y bytes nL ret Post) : c.code = bytes := C.2.2.2.1
theorem Cx.ml (C : Cx p l e R s m args below meth c Z a0 W b y bytes nL ret Post) : c.maxLocals = nL := C.2.2.2.2.1
theorem Cx.rets (C : Cx p l e R s m args below meth c Z a0 W b y bytes nL ret Post) : meth.sig.returnType = ret := C.2.2.2.2.2.1
theorem Cx.nolock (C : Cx p l e R s m args below meth c Z a0 W b y bytes nL ret Post) : meth.locks = false := C.2.2.2.2.2.2.1
theorem Cx.named (C : Cx p l e R s m args below meth c Z a0 W b y bytes nL ret Post) : meth.name = y.name := C.2.2.2.2.2.2.2.1
theorem Cx.hw (C : Cx p l e R s m args below meth c Z a0 W b y bytes nL ret Post) : ∀ d ∈ W, d.before a0 Z = true := C.2.2.2.2.2.2.2.2
abbrev frm (b : Nat) (m : MethodId) (pc : Nat) (L : List Slot) (S : List Value) : JFrame := mkF m pc (L.map (upS b)).toArray (S.map (upV b))
def Ends (p : Program) (e : Env) (s : State) (R : Room) (b : Nat) (Z : State) (a0 : Array Value) (Post : Option Value → List GCell → Prop) (below : List Frame) (A : State) : Prop :=
  ∃ s₂ o, Steps p.tables e below A s₂ ∧ s₂.status = .running ∧ Ended s₂ below o ∧ ∃ v LL, o = .returned v ∧ QQ Z a0 b Post v s₂.heap LL ∧ FrameEnd s o s₂ LL R.cells R.slots
/-- from here the body returns, and Post holds of what it returns and of the heap -/
def Go (C : Cx p l e R s m args below meth c Z a0 W b y bytes nL ret Post) (pc : Nat) (L : List Slot) (S : List Value) (H : List GCell) (cells slots : Nat) : Prop :=
  ∀ T locs, Stand p l e R s m args below meth c T locs cells slots → Fr b locs → Rel Z a0 b H T.heap → Ends p e s R b Z a0 Post below (T.setTop (frm b m pc L S))
variable {C : Cx p l e R s m args below meth c Z a0 W b y bytes nL ret Post} {pc nx tg : Nat} {L L' : List Slot} {S S' : List Value} {H H' : List GCell} {cells slots : Nat}
theorem Ends.back {A B : State} (st : ∀ t, Steps p.tables e below B t → Steps p.tables e below A t) (h : Ends p e s R b Z a0 Post below B) : Ends p e s R b Z a0 Post below A := by
  obtain ⟨s₂, o, hs, hr⟩ := h
  exact ⟨s₂, o, st _ hs, hr⟩
theorem Go.more {cells' slots' : Nat} (h : Go C pc L S H cells' slots') (hc : cells ≤ cells') (hs : slots ≤ slots') : Go C pc L S H cells slots :=
  fun T locs X N RR => h T locs (X.more hc hs) N RR
theorem go_pure (st : ∀ (T : State) locs cells slots, Stand p l e R s m args below meth c T locs cells slots → ∀ t, Steps p.tables e below (T.setTop (frm b m nx L' S')) t → Steps p.tables e below (T.setTop (frm b m pc L S)) t) (h : Go C nx L' S' H cells slots) : Go C pc L S H cells slots :=
  fun T locs X N RR => (h T locs X N RR).back (st T locs _ _ X)
/-- a boolean reckoned by branches: the ways come together at pc' -/
theorem go_cut {pc' : Nat} {P : Int32 → Prop} (h1 : (∀ mb, P mb → Go C pc' L (.int mb :: S) H cells slots) → Go C pc L S H cells slots) (h2 : ∀ mb, P mb → Go C pc' L (.int mb :: S) H cells slots) : Go C pc L S H cells slots := h1 h2
theorem getL {k : Nat} {o : Slot} (h : L[k]? = some o) : (L.map (upS b)).toArray[k]? = some (upS b o) := by simp [h]
theorem go_iload {k : Nat} {x : Int32} (hd : Dc bytes pc (.iload k) 2 nx) (hl : L[k]? = some (.val (.int x))) (h : Go C nx L (.int x :: S) H cells slots) : Go C pc L S H cells slots :=
  go_pure (fun T _ _ _ X t k => by obtain ⟨hd, rfl⟩ := hd; exact XS.iload X.here C.exec rfl (hb C.bys hd) (getL hl) k) h
theorem go_iloadN {k : Fin 4} {x : Int32} (hd : Dc bytes pc (.iload_n k) 1 nx) (hl : L[k.val]? = some (.val (.int x))) (h : Go C nx L (.int x :: S) H cells slots) : Go C pc L S H cells slots :=
  go_pure (fun T _ _ _ X t k => by obtain ⟨hd, rfl⟩ := hd; exact XS.iloadN X.here C.exec rfl (hb C.bys hd) (getL hl) k) h
theorem go_lload {k : Nat} {x : Int64} (hd : Dc bytes pc (.lload k) 2 nx) (hl : L[k]? = some (.val (.long x))) (h : Go C nx L (.long x :: S) H cells slots) : Go C pc L S H cells slots :=
  go_pure (fun T _ _ _ X t k => by obtain ⟨hd, rfl⟩ := hd; exact XT.lload X.here C.exec rfl (hb C.bys hd) (getL hl) k) h
theorem go_lloadN {k : Fin 4} {x : Int64} (hd : Dc bytes pc (.lload_n k) 1 nx) (hl : L[k.val]? = some (.val (.long x))) (h : Go C nx L (.long x :: S) H cells slots) : Go C pc L S H cells slots :=
  go_pure (fun T _ _ _ X t k => by obtain ⟨hd, rfl⟩ := hd; exact XT.lloadN X.here C.exec rfl (hb C.bys hd) (getL hl) k) h
theorem go_aload {k : Nat} {x : Value} (hd : Dc bytes pc (.aload k) 2 nx) (hl : L[k]? = some (.val x)) (hr : x.isRef = true) (h : Go C nx L (x :: S) H cells slots) : Go C pc L S H cells slots :=
  go_pure (fun T _ _ _ X t k => by obtain ⟨hd, rfl⟩ := hd; exact XS.aload X.here C.exec rfl (hb C.bys hd) (getL hl) ((isRef_up b x).trans hr) k) h
theorem go_aloadN {k : Fin 4} {x : Value} (hd : Dc bytes pc (.aload_n k) 1 nx) (hl : L[k.val]? = some (.val x)) (hr : x.isRef = true) (h : Go C nx L (x :: S) H cells slots) : Go C pc L S H cells slots :=
  go_pure (fun T _ _ _ X t k => by obtain ⟨hd, rfl⟩ := hd; exact XS.aloadN X.here C.exec rfl (hb C.bys hd) (getL hl) ((isRef_up b x).trans hr) k) h
theorem go_iconst {i : Int} {x : Int32} (hd : Dc bytes pc (.iconst i) 1 nx) (hv : Int32.ofInt i = x) (h : Go C nx L (.int x :: S) H cells slots) : Go C pc L S H cells slots :=
  go_pure (fun T _ _ _ X t k => by obtain ⟨hd, rfl⟩ := hd; subst hv; exact XS.iconst X.here C.exec rfl (hb C.bys hd) k) h
theorem go_bipush {i : Int} {x : Int32} (hd : Dc bytes pc (.bipush i) 2 nx) (hv : (Int8.ofInt i).toInt32 = x) (h : Go C nx L (.int x :: S) H cells slots) : Go C pc L S H cells slots :=
  go_pure (fun T _ _ _ X t k => by obtain ⟨hd, rfl⟩ := hd; subst hv; exact XS.bipush X.here C.exec rfl (hb C.bys hd) k) h
theorem go_sipush {i : Int} {x : Int32} (hd : Dc bytes pc (.sipush i) 3 nx) (hv : (Int16.ofInt i).toInt32 = x) (h : Go C nx L (.int x :: S) H cells slots) : Go C pc L S H cells slots :=
  go_pure (fun T _ _ _ X t k => by obtain ⟨hd, rfl⟩ := hd; subst hv; exact XS.sipush X.here C.exec rfl (hb C.bys hd) k) h
theorem go_lconst {i : Fin 2} {x : Int64} (hd : Dc bytes pc (.lconst i) 1 nx) (hv : Int64.ofNat i = x) (h : Go C nx L (.long x :: S) H cells slots) : Go C pc L S H cells slots :=
  go_pure (fun T _ _ _ X t k => by obtain ⟨hd, rfl⟩ := hd; subst hv; exact XT.lconst X.here C.exec rfl (hb C.bys hd) k) h
theorem go_null (hd : Dc bytes pc .aconst_null 1 nx) (h : Go C nx L (.null :: S) H cells slots) : Go C pc L S H cells slots :=
  go_pure (fun T _ _ _ X t k => by obtain ⟨hd, rfl⟩ := hd; exact XS.aconstNull X.here C.exec rfl (hb C.bys hd) k) h
theorem go_ldc {i : Nat} {x : Int32} (hd : Dc bytes pc (.ldc i) 2 nx) (w : Jvm.Cond.constant y.cls i x ∈ W) (h : Go C nx L (.int x :: S) H cells slots) : Go C pc L S H cells slots :=
  go_pure (fun T _ _ _ X t k => by obtain ⟨hd, rfl⟩ := hd; exact X.ldcInt C.exec C.own (mvT C.warm (C.hw _ w)) (g := frm b m pc L S) rfl (hb C.bys hd) _ k) h
theorem go_ldc2 {i : Nat} {x : Int64} (hd : Dc bytes pc (.ldc2_w i) 3 nx) (w : Jvm.Cond.constantLong y.cls i x ∈ W) (h : Go C nx L (.long x :: S) H cells slots) : Go C pc L S H cells slots :=
  go_pure (fun T _ _ _ X t k => by obtain ⟨hd, rfl⟩ := hd; exact X.ldc2Long C.exec C.own (mvT C.warm (C.hw _ w)) (g := frm b m pc L S) rfl (hb C.bys hd) _ k) h
theorem go_iadd {x : Int32} {z : Int32} (hd : Dc bytes pc .iadd 1 nx) (h : Go C nx L (.int (x + z) :: S) H cells slots) : Go C pc L (.int z :: .int x :: S) H cells slots :=
  go_pure (fun T _ _ _ X t k => by obtain ⟨hd, rfl⟩ := hd; exact XS.iadd X.here C.exec rfl (hb C.bys hd) rfl k) h
theorem go_ladd {x : Int64} {z : Int64} (hd : Dc bytes pc .ladd 1 nx) (h : Go C nx L (.long (x + z) :: S) H cells slots) : Go C pc L (.long z :: .long x :: S) H cells slots :=
  go_pure (fun T _ _ _ X t k => by obtain ⟨hd, rfl⟩ := hd; exact XT.ladd X.here C.exec rfl (hb C.bys hd) rfl k) h
theorem go_isub {x : Int32} {z : Int32} (hd : Dc bytes pc .isub 1 nx) (h : Go C nx L (.int (x - z) :: S) H cells slots) : Go C pc L (.int z :: .int x :: S) H cells slots :=
  go_pure (fun T _ _ _ X t k => by obtain ⟨hd, rfl⟩ := hd; exact XS.isub X.here C.exec rfl (hb C.bys hd) rfl k) h
theorem go_lsub {x : Int64} {z : Int64} (hd : Dc bytes pc .lsub 1 nx) (h : Go C nx L (.long (x - z) :: S) H cells slots) : Go C pc L (.long z :: .long x :: S) H cells slots :=
  go_pure (fun T _ _ _ X t k => by obtain ⟨hd, rfl⟩ := hd; exact XT.lsub X.here C.exec rfl (hb C.bys hd) rfl k) h
theorem go_imul {x : Int32} {z : Int32} (hd : Dc bytes pc .imul 1 nx) (h : Go C nx L (.int (x * z) :: S) H cells slots) : Go C pc L (.int z :: .int x :: S) H cells slots :=
  go_pure (fun T _ _ _ X t k => by obtain ⟨hd, rfl⟩ := hd; exact XS.imul X.here C.exec rfl (hb C.bys hd) rfl k) h
theorem go_lmul {x : Int64} {z : Int64} (hd : Dc bytes pc .lmul 1 nx) (h : Go C nx L (.long (x * z) :: S) H cells slots) : Go C pc L (.long z :: .long x :: S) H cells slots :=
  go_pure (fun T _ _ _ X t k => by obtain ⟨hd, rfl⟩ := hd; exact XT.lmul X.here C.exec rfl (hb C.bys hd) rfl k) h
theorem go_iand {x : Int32} {z : Int32} (hd : Dc bytes pc .iand 1 nx) (h : Go C nx L (.int (x &&& z) :: S) H cells slots) : Go C pc L (.int z :: .int x :: S) H cells slots :=
  go_pure (fun T _ _ _ X t k => by obtain ⟨hd, rfl⟩ := hd; exact XS.iand X.here C.exec rfl (hb C.bys hd) rfl k) h
theorem go_land {x : Int64} {z : Int64} (hd : Dc bytes pc .land 1 nx) (h : Go C nx L (.long (x &&& z) :: S) H cells slots) : Go C pc L (.long z :: .long x :: S) H cells slots :=
  go_pure (fun T _ _ _ X t k => by obtain ⟨hd, rfl⟩ := hd; exact XT.land X.here C.exec rfl (hb C.bys hd) rfl k) h
theorem go_ior {x : Int32} {z : Int32} (hd : Dc bytes pc .ior 1 nx) (h : Go C nx L (.int (x ||| z) :: S) H cells slots) : Go C pc L (.int z :: .int x :: S) H cells slots :=
  go_pure (fun T _ _ _ X t k => by obtain ⟨hd, rfl⟩ := hd; exact XT.ior X.here C.exec rfl (hb C.bys hd) rfl k) h
theorem go_lor {x : Int64} {z : Int64} (hd : Dc bytes pc .lor 1 nx) (h : Go C nx L (.long (x ||| z) :: S) H cells slots) : Go C pc L (.long z :: .long x :: S) H cells slots :=
  go_pure (fun T _ _ _ X t k => by obtain ⟨hd, rfl⟩ := hd; exact XT.lor X.here C.exec rfl (hb C.bys hd) rfl k) h
theorem go_ixor {x : Int32} {z : Int32} (hd : Dc bytes pc .ixor 1 nx) (h : Go C nx L (.int (x ^^^ z) :: S) H cells slots) : Go C pc L (.int z :: .int x :: S) H cells slots :=
  go_pure (fun T _ _ _ X t k => by obtain ⟨hd, rfl⟩ := hd; exact XT.ixor X.here C.exec rfl (hb C.bys hd) rfl k) h
theorem go_lxor {x : Int64} {z : Int64} (hd : Dc bytes pc .lxor 1 nx) (h : Go C nx L (.long (x ^^^ z) :: S) H cells slots) : Go C pc L (.long z :: .long x :: S) H cells slots :=
  go_pure (fun T _ _ _ X t k => by obtain ⟨hd, rfl⟩ := hd; exact XT.lxor X.here C.exec rfl (hb C.bys hd) rfl k) h
theorem go_ishl {x : Int32} {z : Int32} (hd : Dc bytes pc .ishl 1 nx) (h : Go C nx L (.int (x <<< (z &&& 31)) :: S) H cells slots) : Go C pc L (.int z :: .int x :: S) H cells slots :=
  go_pure (fun T _ _ _ X t k => by obtain ⟨hd, rfl⟩ := hd; exact XT.ishl X.here C.exec rfl (hb C.bys hd) rfl k) h
theorem go_ishr {x : Int32} {z : Int32} (hd : Dc bytes pc .ishr 1 nx) (h : Go C nx L (.int (x >>> (z &&& 31)) :: S) H cells slots) : Go C pc L (.int z :: .int x :: S) H cells slots :=
  go_pure (fun T _ _ _ X t k => by obtain ⟨hd, rfl⟩ := hd; exact XT.ishr X.here C.exec rfl (hb C.bys hd) rfl k) h
theorem go_iushr {x : Int32} {z : Int32} (hd : Dc bytes pc .iushr 1 nx) (h : Go C nx L (.int (XT.ushr x z) :: S) H cells slots) : Go C pc L (.int z :: .int x :: S) H cells slots :=
  go_pure (fun T _ _ _ X t k => by obtain ⟨hd, rfl⟩ := hd; exact XT.iushr X.here C.exec rfl (hb C.bys hd) rfl k) h
theorem go_lshl {x : Int64} {z : Int32} (hd : Dc bytes pc .lshl 1 nx) (h : Go C nx L (.long (x <<< (z.toInt64 &&& 63)) :: S) H cells slots) : Go C pc L (.int z :: .long x :: S) H cells slots :=
  go_pure (fun T _ _ _ X t k => by obtain ⟨hd, rfl⟩ := hd; exact XT.lshl X.here C.exec rfl (hb C.bys hd) rfl k) h
theorem go_lshr {x : Int64} {z : Int32} (hd : Dc bytes pc .lshr 1 nx) (h : Go C nx L (.long (x >>> (z.toInt64 &&& 63)) :: S) H cells slots) : Go C pc L (.int z :: .long x :: S) H cells slots :=
  go_pure (fun T _ _ _ X t k => by obtain ⟨hd, rfl⟩ := hd; exact XT.lshr X.here C.exec rfl (hb C.bys hd) rfl k) h
theorem go_lushr {x : Int64} {z : Int32} (hd : Dc bytes pc .lushr 1 nx) (h : Go C nx L (.long (XT.ushrL x z) :: S) H cells slots) : Go C pc L (.int z :: .long x :: S) H cells slots :=
  go_pure (fun T _ _ _ X t k => by obtain ⟨hd, rfl⟩ := hd; exact XT.lushr X.here C.exec rfl (hb C.bys hd) rfl k) h
theorem go_ineg {x : Int32} (hd : Dc bytes pc .ineg 1 nx) (h : Go C nx L (.int (-x) :: S) H cells slots) : Go C pc L (.int x :: S) H cells slots :=
  go_pure (fun T _ _ _ X t k => by obtain ⟨hd, rfl⟩ := hd; exact XS.ineg X.here C.exec rfl (hb C.bys hd) rfl k) h
theorem go_lneg {x : Int64} (hd : Dc bytes pc .lneg 1 nx) (h : Go C nx L (.long (-x) :: S) H cells slots) : Go C pc L (.long x :: S) H cells slots :=
  go_pure (fun T _ _ _ X t k => by obtain ⟨hd, rfl⟩ := hd; exact XT.lneg X.here C.exec rfl (hb C.bys hd) rfl k) h
theorem go_i2l {x : Int32} (hd : Dc bytes pc .i2l 1 nx) (h : Go C nx L (.long (x.toInt64) :: S) H cells slots) : Go C pc L (.int x :: S) H cells slots :=
  go_pure (fun T _ _ _ X t k => by obtain ⟨hd, rfl⟩ := hd; exact XT.i2l X.here C.exec rfl (hb C.bys hd) rfl k) h
theorem go_l2i {x : Int64} (hd : Dc bytes pc .l2i 1 nx) (h : Go C nx L (.int (x.toInt32) :: S) H cells slots) : Go C pc L (.long x :: S) H cells slots :=
  go_pure (fun T _ _ _ X t k => by obtain ⟨hd, rfl⟩ := hd; exact XT.l2i X.here C.exec rfl (hb C.bys hd) rfl k) h
theorem go_i2b {x : Int32} (hd : Dc bytes pc .i2b 1 nx) (h : Go C nx L (.int (x.toInt8.toInt32) :: S) H cells slots) : Go C pc L (.int x :: S) H cells slots :=
  go_pure (fun T _ _ _ X t k => by obtain ⟨hd, rfl⟩ := hd; exact XT.i2b X.here C.exec rfl (hb C.bys hd) rfl k) h
theorem go_i2c {x : Int32} (hd : Dc bytes pc .i2c 1 nx) (h : Go C nx L (.int (x.toUInt32.toUInt16.toUInt32.toInt32) :: S) H cells slots) : Go C pc L (.int x :: S) H cells slots :=
  go_pure (fun T _ _ _ X t k => by obtain ⟨hd, rfl⟩ := hd; exact XT.i2c X.here C.exec rfl (hb C.bys hd) rfl k) h
theorem go_i2s {x : Int32} (hd : Dc bytes pc .i2s 1 nx) (h : Go C nx L (.int (x.toInt16.toInt32) :: S) H cells slots) : Go C pc L (.int x :: S) H cells slots :=
  go_pure (fun T _ _ _ X t k => by obtain ⟨hd, rfl⟩ := hd; exact XT.i2s X.here C.exec rfl (hb C.bys hd) rfl k) h
theorem go_idiv {x z : Int32} (hd : Dc bytes pc .idiv 1 nx) (hz : z ≠ 0) (h : Go C nx L (.int (x / z) :: S) H cells slots) : Go C pc L (.int z :: .int x :: S) H cells slots :=
  go_pure (fun T _ _ _ X t k => by obtain ⟨hd, rfl⟩ := hd; exact XS.idiv X.here C.exec rfl (hb C.bys hd) rfl hz k) h
theorem go_irem {x z : Int32} (hd : Dc bytes pc .irem 1 nx) (hz : z ≠ 0) (h : Go C nx L (.int (x % z) :: S) H cells slots) : Go C pc L (.int z :: .int x :: S) H cells slots :=
  go_pure (fun T _ _ _ X t k => by obtain ⟨hd, rfl⟩ := hd; exact iremM X C.exec rfl (hb C.bys hd) rfl hz k) h
theorem go_dup {v : Value} (hd : Dc bytes pc .dup 1 nx) (hc : v.category = 1) (h : Go C nx L (v :: v :: S) H cells slots) : Go C pc L (v :: S) H cells slots :=
  go_pure (fun T _ _ _ X t k => by obtain ⟨hd, rfl⟩ := hd; exact XS.dup X.here C.exec rfl (hb C.bys hd) rfl ((cat_up b v).trans hc) k) h
theorem go_dupX1 {v w : Value} (hd : Dc bytes pc .dup_x1 1 nx) (hc : v.category = 1) (hc' : w.category = 1) (h : Go C nx L (v :: w :: v :: S) H cells slots) : Go C pc L (v :: w :: S) H cells slots :=
  go_pure (fun T _ _ _ X t k => by obtain ⟨hd, rfl⟩ := hd; exact XT.dupX1 X.here C.exec rfl (hb C.bys hd) rfl ((cat_up b v).trans hc) ((cat_up b w).trans hc') k) h
theorem go_dup2 {v w : Value} (hd : Dc bytes pc .dup2 1 nx) (hc : v.category = 1) (hc' : w.category = 1) (h : Go C nx L (v :: w :: v :: w :: S) H cells slots) : Go C pc L (v :: w :: S) H cells slots :=
  go_pure (fun T _ _ _ X t k => by obtain ⟨hd, rfl⟩ := hd; exact XT.dup2 X.here C.exec rfl (hb C.bys hd) rfl ((cat_up b v).trans hc) ((cat_up b w).trans hc') k) h
theorem go_dup2L {x : Int64} (hd : Dc bytes pc .dup2 1 nx) (h : Go C nx L (.long x :: .long x :: S) H cells slots) : Go C pc L (.long x :: S) H cells slots :=
  go_pure (fun T _ _ _ X t k => by obtain ⟨hd, rfl⟩ := hd; exact XT.dup2L X.here C.exec rfl (hb C.bys hd) rfl k) h
theorem go_pop {v : Value} (hd : Dc bytes pc .pop 1 nx) (hc : v.category = 1) (h : Go C nx L S H cells slots) : Go C pc L (v :: S) H cells slots :=
  go_pure (fun T _ _ _ X t k => by obtain ⟨hd, rfl⟩ := hd; exact XT.pop X.here C.exec rfl (hb C.bys hd) rfl ((cat_up b v).trans hc) k) h
theorem go_goto {o : Int} (hd : Dc bytes pc (.goto o) 3 nx) (ht : (pc : Int) + o = (tg : Nat)) (h : Go C tg L S H cells slots) : Go C pc L S H cells slots :=
  go_pure (fun T _ _ _ X t k => XS.goto X.here C.exec rfl (pc0 := pc) (pc' := tg) rfl (hb C.bys hd.1) (by omega) (by omega) k) h
theorem go_icmp {cd : ClassFile.Cond} {o : Int} {x z : Int32} (hd : Dc bytes pc (.if_icmp cd o) 3 nx) (ht : (pc : Int) + o = (tg : Nat)) (h1 : if_icmp.holds cd x z = true → Go C tg L S H cells slots) (h2 : if_icmp.holds cd x z = false → Go C nx L S H cells slots) : Go C pc L (.int z :: .int x :: S) H cells slots := by
  cases q : if_icmp.holds cd x z
  · exact go_pure (fun T _ _ _ X t k => by obtain ⟨hd, rfl⟩ := hd; exact XS.icmpNo X.here C.exec rfl (hb C.bys hd) rfl q k) (h2 q)
  · exact go_pure (fun T _ _ _ X t k => XS.icmpYes X.here C.exec rfl (pc0 := pc) (pc' := tg) rfl (hb C.bys hd.1) rfl q (by omega) (by omega) k) (h1 q)
theorem go_if {cd : ClassFile.Cond} {o : Int} {x : Int32} (hd : Dc bytes pc (.ifCond cd o) 3 nx) (ht : (pc : Int) + o = (tg : Nat)) (h1 : if_icmp.holds cd x 0 = true → Go C tg L S H cells slots) (h2 : if_icmp.holds cd x 0 = false → Go C nx L S H cells slots) : Go C pc L (.int x :: S) H cells slots := by
  cases q : if_icmp.holds cd x 0
  · exact go_pure (fun T _ _ _ X t k => by obtain ⟨hd, rfl⟩ := hd; exact XS.ifNo X.here C.exec rfl (hb C.bys hd) rfl ((if0 _ _).trans q) k) (h2 q)
  · exact go_pure (fun T _ _ _ X t k => XS.ifYes X.here C.exec rfl (pc0 := pc) (pc' := tg) rfl (hb C.bys hd.1) rfl ((if0 _ _).trans q) (by omega) (by omega) k) (h1 q)
theorem h_eq {x z : Int32} {B : Bool} (q : if_icmp.holds .eq x z = B) : B = true ↔ x = z := by subst q; simp [if_icmp.holds]
theorem h_ne {x z : Int32} {B : Bool} (q : if_icmp.holds .ne x z = B) : B = true ↔ ¬ x = z := by subst q; simp [if_icmp.holds]
theorem h_lt {x z : Int32} {B : Bool} (q : if_icmp.holds .lt x z = B) : B = true ↔ x.toInt < z.toInt := by subst q; simp [if_icmp.holds, Int32.lt_iff_toInt_lt]
theorem h_ge {x z : Int32} {B : Bool} (q : if_icmp.holds .ge x z = B) : B = true ↔ z.toInt ≤ x.toInt := by subst q; simp [if_icmp.holds, Int32.le_iff_toInt_le]
theorem h_gt {x z : Int32} {B : Bool} (q : if_icmp.holds .gt x z = B) : B = true ↔ z.toInt < x.toInt := by subst q; simp [if_icmp.holds, Int32.lt_iff_toInt_lt]
theorem h_le {x z : Int32} {B : Bool} (q : if_icmp.holds .le x z = B) : B = true ↔ x.toInt ≤ z.toInt := by subst q; simp [if_icmp.holds, Int32.le_iff_toInt_le]
theorem go_iceq {o : Int} {x z : Int32} (hd : Dc bytes pc (.if_icmp .eq o) 3 nx) (ht : (pc : Int) + o = (tg : Nat)) (h1 : x = z → Go C tg L S H cells slots) (h2 : ¬ x = z → Go C nx L S H cells slots) : Go C pc L (.int z :: .int x :: S) H cells slots :=
  go_icmp hd ht (fun q => h1 ((h_eq q).mp rfl)) (fun q => h2 (fun r => Bool.noConfusion ((h_eq q).mpr r)))
theorem go_iceqY {o : Int} {x z : Int32} (hd : Dc bytes pc (.if_icmp .eq o) 3 nx) (ht : (pc : Int) + o = (tg : Nat)) (hc : x = z) (h : Go C tg L S H cells slots) : Go C pc L (.int z :: .int x :: S) H cells slots :=
  go_iceq hd ht (fun _ => h) (fun q => absurd hc (by first | exact q | exact not_not_intro q | omega))
theorem go_iceqN {o : Int} {x z : Int32} (hd : Dc bytes pc (.if_icmp .eq o) 3 nx) (ht : (pc : Int) + o = (tg : Nat)) (hc : ¬ x = z) (h : Go C nx L S H cells slots) : Go C pc L (.int z :: .int x :: S) H cells slots :=
  go_iceq hd ht (fun q => absurd hc (by first | exact q | exact not_not_intro q | omega)) (fun _ => h)
theorem go_ifeq {o : Int} {x : Int32} (hd : Dc bytes pc (.ifCond .eq o) 3 nx) (ht : (pc : Int) + o = (tg : Nat)) (h1 : x = 0 → Go C tg L S H cells slots) (h2 : ¬ x = 0 → Go C nx L S H cells slots) : Go C pc L (.int x :: S) H cells slots :=
  go_if hd ht (fun q => h1 ((h_eq q).mp rfl)) (fun q => h2 (fun r => Bool.noConfusion ((h_eq q).mpr r)))
theorem go_ifeqY {o : Int} {x : Int32} (hd : Dc bytes pc (.ifCond .eq o) 3 nx) (ht : (pc : Int) + o = (tg : Nat)) (hc : x = 0) (h : Go C tg L S H cells slots) : Go C pc L (.int x :: S) H cells slots :=
  go_ifeq hd ht (fun _ => h) (fun q => absurd hc (by first | exact q | exact not_not_intro q | omega))
theorem go_ifeqN {o : Int} {x : Int32} (hd : Dc bytes pc (.ifCond .eq o) 3 nx) (ht : (pc : Int) + o = (tg : Nat)) (hc : ¬ x = 0) (h : Go C nx L S H cells slots) : Go C pc L (.int x :: S) H cells slots :=
  go_ifeq hd ht (fun q => absurd hc (by first | exact q | exact not_not_intro q | omega)) (fun _ => h)
theorem go_icne {o : Int} {x z : Int32} (hd : Dc bytes pc (.if_icmp .ne o) 3 nx) (ht : (pc : Int) + o = (tg : Nat)) (h1 : ¬ x = z → Go C tg L S H cells slots) (h2 : x = z → Go C nx L S H cells slots) : Go C pc L (.int z :: .int x :: S) H cells slots :=
  go_icmp hd ht (fun q => h1 ((h_ne q).mp rfl)) (fun q => h2 (Decidable.not_not.mp fun r => Bool.noConfusion ((h_ne q).mpr r)))
theorem go_icneY {o : Int} {x z : Int32} (hd : Dc bytes pc (.if_icmp .ne o) 3 nx) (ht : (pc : Int) + o = (tg : Nat)) (hc : ¬ x = z) (h : Go C tg L S H cells slots) : Go C pc L (.int z :: .int x :: S) H cells slots :=
  go_icne hd ht (fun _ => h) (fun q => absurd hc (by first | exact q | exact not_not_intro q | omega))
theorem go_icneN {o : Int} {x z : Int32} (hd : Dc bytes pc (.if_icmp .ne o) 3 nx) (ht : (pc : Int) + o = (tg : Nat)) (hc : x = z) (h : Go C nx L S H cells slots) : Go C pc L (.int z :: .int x :: S) H cells slots :=
  go_icne hd ht (fun q => absurd hc (by first | exact q | exact not_not_intro q | omega)) (fun _ => h)
theorem go_ifne {o : Int} {x : Int32} (hd : Dc bytes pc (.ifCond .ne o) 3 nx) (ht : (pc : Int) + o = (tg : Nat)) (h1 : ¬ x = 0 → Go C tg L S H cells slots) (h2 : x = 0 → Go C nx L S H cells slots) : Go C pc L (.int x :: S) H cells slots :=
  go_if hd ht (fun q => h1 ((h_ne q).mp rfl)) (fun q => h2 (Decidable.not_not.mp fun r => Bool.noConfusion ((h_ne q).mpr r)))
theorem go_ifneY {o : Int} {x : Int32} (hd : Dc bytes pc (.ifCond .ne o) 3 nx) (ht : (pc : Int) + o = (tg : Nat)) (hc : ¬ x = 0) (h : Go C tg L S H cells slots) : Go C pc L (.int x :: S) H cells slots :=
  go_ifne hd ht (fun _ => h) (fun q => absurd hc (by first | exact q | exact not_not_intro q | omega))
theorem go_ifneN {o : Int} {x : Int32} (hd : Dc bytes pc (.ifCond .ne o) 3 nx) (ht : (pc : Int) + o = (tg : Nat)) (hc : x = 0) (h : Go C nx L S H cells slots) : Go C pc L (.int x :: S) H cells slots :=
  go_ifne hd ht (fun q => absurd hc (by first | exact q | exact not_not_intro q | omega)) (fun _ => h)
theorem go_iclt {o : Int} {x z : Int32} (hd : Dc bytes pc (.if_icmp .lt o) 3 nx) (ht : (pc : Int) + o = (tg : Nat)) (h1 : x.toInt < z.toInt → Go C tg L S H cells slots) (h2 : z.toInt ≤ x.toInt → Go C nx L S H cells slots) : Go C pc L (.int z :: .int x :: S) H cells slots :=
  go_icmp hd ht (fun q => h1 ((h_lt q).mp rfl)) (fun q => h2 ((by have := mt (h_lt q).mpr (by simp); omega)))
theorem go_icltY {o : Int} {x z : Int32} (hd : Dc bytes pc (.if_icmp .lt o) 3 nx) (ht : (pc : Int) + o = (tg : Nat)) (hc : x.toInt < z.toInt) (h : Go C tg L S H cells slots) : Go C pc L (.int z :: .int x :: S) H cells slots :=
  go_iclt hd ht (fun _ => h) (fun q => absurd hc (by first | exact q | exact not_not_intro q | omega))
theorem go_icltN {o : Int} {x z : Int32} (hd : Dc bytes pc (.if_icmp .lt o) 3 nx) (ht : (pc : Int) + o = (tg : Nat)) (hc : z.toInt ≤ x.toInt) (h : Go C nx L S H cells slots) : Go C pc L (.int z :: .int x :: S) H cells slots :=
  go_iclt hd ht (fun q => absurd hc (by first | exact q | exact not_not_intro q | omega)) (fun _ => h)
theorem go_iflt {o : Int} {x : Int32} (hd : Dc bytes pc (.ifCond .lt o) 3 nx) (ht : (pc : Int) + o = (tg : Nat)) (h1 : x.toInt < 0 → Go C tg L S H cells slots) (h2 : 0 ≤ x.toInt → Go C nx L S H cells slots) : Go C pc L (.int x :: S) H cells slots :=
  go_if hd ht (fun q => h1 ((by have := (h_lt q).mp rfl; simpa using this))) (fun q => h2 ((by have := mt (h_lt q).mpr (by simp); simpa using this)))
theorem go_ifltY {o : Int} {x : Int32} (hd : Dc bytes pc (.ifCond .lt o) 3 nx) (ht : (pc : Int) + o = (tg : Nat)) (hc : x.toInt < 0) (h : Go C tg L S H cells slots) : Go C pc L (.int x :: S) H cells slots :=
  go_iflt hd ht (fun _ => h) (fun q => absurd hc (by first | exact q | exact not_not_intro q | omega))
theorem go_ifltN {o : Int} {x : Int32} (hd : Dc bytes pc (.ifCond .lt o) 3 nx) (ht : (pc : Int) + o = (tg : Nat)) (hc : 0 ≤ x.toInt) (h : Go C nx L S H cells slots) : Go C pc L (.int x :: S) H cells slots :=
  go_iflt hd ht (fun q => absurd hc (by first | exact q | exact not_not_intro q | omega)) (fun _ => h)
theorem go_icge {o : Int} {x z : Int32} (hd : Dc bytes pc (.if_icmp .ge o) 3 nx) (ht : (pc : Int) + o = (tg : Nat)) (h1 : z.toInt ≤ x.toInt → Go C tg L S H cells slots) (h2 : x.toInt < z.toInt → Go C nx L S H cells slots) : Go C pc L (.int z :: .int x :: S) H cells slots :=
  go_icmp hd ht (fun q => h1 ((h_ge q).mp rfl)) (fun q => h2 ((by have := mt (h_ge q).mpr (by simp); omega)))
theorem go_icgeY {o : Int} {x z : Int32} (hd : Dc bytes pc (.if_icmp .ge o) 3 nx) (ht : (pc : Int) + o = (tg : Nat)) (hc : z.toInt ≤ x.toInt) (h : Go C tg L S H cells slots) : Go C pc L (.int z :: .int x :: S) H cells slots :=
  go_icge hd ht (fun _ => h) (fun q => absurd hc (by first | exact q | exact not_not_intro q | omega))
theorem go_icgeN {o : Int} {x z : Int32} (hd : Dc bytes pc (.if_icmp .ge o) 3 nx) (ht : (pc : Int) + o = (tg : Nat)) (hc : x.toInt < z.toInt) (h : Go C nx L S H cells slots) : Go C pc L (.int z :: .int x :: S) H cells slots :=
  go_icge hd ht (fun q => absurd hc (by first | exact q | exact not_not_intro q | omega)) (fun _ => h)
theorem go_ifge {o : Int} {x : Int32} (hd : Dc bytes pc (.ifCond .ge o) 3 nx) (ht : (pc : Int) + o = (tg : Nat)) (h1 : 0 ≤ x.toInt → Go C tg L S H cells slots) (h2 : x.toInt < 0 → Go C nx L S H cells slots) : Go C pc L (.int x :: S) H cells slots :=
  go_if hd ht (fun q => h1 ((by have := (h_ge q).mp rfl; simpa using this))) (fun q => h2 ((by have := mt (h_ge q).mpr (by simp); simpa using this)))
theorem go_ifgeY {o : Int} {x : Int32} (hd : Dc bytes pc (.ifCond .ge o) 3 nx) (ht : (pc : Int) + o = (tg : Nat)) (hc : 0 ≤ x.toInt) (h : Go C tg L S H cells slots) : Go C pc L (.int x :: S) H cells slots :=
  go_ifge hd ht (fun _ => h) (fun q => absurd hc (by first | exact q | exact not_not_intro q | omega))
theorem go_ifgeN {o : Int} {x : Int32} (hd : Dc bytes pc (.ifCond .ge o) 3 nx) (ht : (pc : Int) + o = (tg : Nat)) (hc : x.toInt < 0) (h : Go C nx L S H cells slots) : Go C pc L (.int x :: S) H cells slots :=
  go_ifge hd ht (fun q => absurd hc (by first | exact q | exact not_not_intro q | omega)) (fun _ => h)
theorem go_icgt {o : Int} {x z : Int32} (hd : Dc bytes pc (.if_icmp .gt o) 3 nx) (ht : (pc : Int) + o = (tg : Nat)) (h1 : z.toInt < x.toInt → Go C tg L S H cells slots) (h2 : x.toInt ≤ z.toInt → Go C nx L S H cells slots) : Go C pc L (.int z :: .int x :: S) H cells slots :=
  go_icmp hd ht (fun q => h1 ((h_gt q).mp rfl)) (fun q => h2 ((by have := mt (h_gt q).mpr (by simp); omega)))
theorem go_icgtY {o : Int} {x z : Int32} (hd : Dc bytes pc (.if_icmp .gt o) 3 nx) (ht : (pc : Int) + o = (tg : Nat)) (hc : z.toInt < x.toInt) (h : Go C tg L S H cells slots) : Go C pc L (.int z :: .int x :: S) H cells slots :=
  go_icgt hd ht (fun _ => h) (fun q => absurd hc (by first | exact q | exact not_not_intro q | omega))
theorem go_icgtN {o : Int} {x z : Int32} (hd : Dc bytes pc (.if_icmp .gt o) 3 nx) (ht : (pc : Int) + o = (tg : Nat)) (hc : x.toInt ≤ z.toInt) (h : Go C nx L S H cells slots) : Go C pc L (.int z :: .int x :: S) H cells slots :=
  go_icgt hd ht (fun q => absurd hc (by first | exact q | exact not_not_intro q | omega)) (fun _ => h)
theorem go_ifgt {o : Int} {x : Int32} (hd : Dc bytes pc (.ifCond .gt o) 3 nx) (ht : (pc : Int) + o = (tg : Nat)) (h1 : 0 < x.toInt → Go C tg L S H cells slots) (h2 : x.toInt ≤ 0 → Go C nx L S H cells slots) : Go C pc L (.int x :: S) H cells slots :=
  go_if hd ht (fun q => h1 ((by have := (h_gt q).mp rfl; simpa using this))) (fun q => h2 ((by have := mt (h_gt q).mpr (by simp); simpa using this)))
theorem go_ifgtY {o : Int} {x : Int32} (hd : Dc bytes pc (.ifCond .gt o) 3 nx) (ht : (pc : Int) + o = (tg : Nat)) (hc : 0 < x.toInt) (h : Go C tg L S H cells slots) : Go C pc L (.int x :: S) H cells slots :=
  go_ifgt hd ht (fun _ => h) (fun q => absurd hc (by first | exact q | exact not_not_intro q | omega))
theorem go_ifgtN {o : Int} {x : Int32} (hd : Dc bytes pc (.ifCond .gt o) 3 nx) (ht : (pc : Int) + o = (tg : Nat)) (hc : x.toInt ≤ 0) (h : Go C nx L S H cells slots) : Go C pc L (.int x :: S) H cells slots :=
  go_ifgt hd ht (fun q => absurd hc (by first | exact q | exact not_not_intro q | omega)) (fun _ => h)
theorem go_icle {o : Int} {x z : Int32} (hd : Dc bytes pc (.if_icmp .le o) 3 nx) (ht : (pc : Int) + o = (tg : Nat)) (h1 : x.toInt ≤ z.toInt → Go C tg L S H cells slots) (h2 : z.toInt < x.toInt → Go C nx L S H cells slots) : Go C pc L (.int z :: .int x :: S) H cells slots :=
  go_icmp hd ht (fun q => h1 ((h_le q).mp rfl)) (fun q => h2 ((by have := mt (h_le q).mpr (by simp); omega)))
theorem go_icleY {o : Int} {x z : Int32} (hd : Dc bytes pc (.if_icmp .le o) 3 nx) (ht : (pc : Int) + o = (tg : Nat)) (hc : x.toInt ≤ z.toInt) (h : Go C tg L S H cells slots) : Go C pc L (.int z :: .int x :: S) H cells slots :=
  go_icle hd ht (fun _ => h) (fun q => absurd hc (by first | exact q | exact not_not_intro q | omega))
theorem go_icleN {o : Int} {x z : Int32} (hd : Dc bytes pc (.if_icmp .le o) 3 nx) (ht : (pc : Int) + o = (tg : Nat)) (hc : z.toInt < x.toInt) (h : Go C nx L S H cells slots) : Go C pc L (.int z :: .int x :: S) H cells slots :=
  go_icle hd ht (fun q => absurd hc (by first | exact q | exact not_not_intro q | omega)) (fun _ => h)
theorem go_ifle {o : Int} {x : Int32} (hd : Dc bytes pc (.ifCond .le o) 3 nx) (ht : (pc : Int) + o = (tg : Nat)) (h1 : x.toInt ≤ 0 → Go C tg L S H cells slots) (h2 : 0 < x.toInt → Go C nx L S H cells slots) : Go C pc L (.int x :: S) H cells slots :=
  go_if hd ht (fun q => h1 ((by have := (h_le q).mp rfl; simpa using this))) (fun q => h2 ((by have := mt (h_le q).mpr (by simp); simpa using this)))
theorem go_ifleY {o : Int} {x : Int32} (hd : Dc bytes pc (.ifCond .le o) 3 nx) (ht : (pc : Int) + o = (tg : Nat)) (hc : x.toInt ≤ 0) (h : Go C tg L S H cells slots) : Go C pc L (.int x :: S) H cells slots :=
  go_ifle hd ht (fun _ => h) (fun q => absurd hc (by first | exact q | exact not_not_intro q | omega))
theorem go_ifleN {o : Int} {x : Int32} (hd : Dc bytes pc (.ifCond .le o) 3 nx) (ht : (pc : Int) + o = (tg : Nat)) (hc : 0 < x.toInt) (h : Go C nx L S H cells slots) : Go C pc L (.int x :: S) H cells slots :=
  go_ifle hd ht (fun q => absurd hc (by first | exact q | exact not_not_intro q | omega)) (fun _ => h)
theorem lcm_eq (x z : Int64) : XT.cmpL x z = 0 ↔ x = z := by
  unfold XT.cmpL
  by_cases h1 : z < x
  · rw [if_pos h1]; constructor
    · intro h; cases h
    · rintro rfl; exact (Int64.lt_irrefl h1).elim
  · rw [if_neg h1]; by_cases h2 : x = z
    · rw [if_pos h2]; simp [h2]
    · rw [if_neg h2]; constructor
      · intro h; cases h
      · intro h; exact absurd h h2
theorem lcm_lt (x z : Int64) : (XT.cmpL x z).toInt < 0 ↔ x.toInt < z.toInt := by
  unfold XT.cmpL
  by_cases h1 : z < x
  · rw [if_pos h1]; rw [Int64.lt_iff_toInt_lt] at h1; constructor
    · intro h; exact absurd h (by decide)
    · intro h; omega
  · rw [if_neg h1]; rw [Int64.lt_iff_toInt_lt] at h1; by_cases h2 : x = z
    · rw [if_pos h2]; subst h2; constructor
      · intro h; exact absurd h (by decide)
      · intro h; omega
    · rw [if_neg h2]; have : x.toInt ≠ z.toInt := fun q => h2 (Int64.toInt_inj.mp q)
      constructor
      · intro h; omega
      · intro h; decide
theorem lcm_gt (x z : Int64) : 0 < (XT.cmpL x z).toInt ↔ z.toInt < x.toInt := by
  unfold XT.cmpL
  by_cases h1 : z < x
  · rw [if_pos h1]; rw [Int64.lt_iff_toInt_lt] at h1; constructor
    · intro h; omega
    · intro h; decide
  · rw [if_neg h1]; rw [Int64.lt_iff_toInt_lt] at h1; by_cases h2 : x = z
    · rw [if_pos h2]; subst h2; constructor
      · intro h; exact absurd h (by decide)
      · intro h; omega
    · rw [if_neg h2]; constructor
      · intro h; exact absurd h (by decide)
      · intro h; omega
theorem go_lcmp {x z : Int64} (hd : Dc bytes pc .lcmp 1 nx) (h : Go C nx L (.int (XT.cmpL x z) :: S) H cells slots) : Go C pc L (.long z :: .long x :: S) H cells slots :=
  go_pure (fun T _ _ _ X t k => by obtain ⟨hd, rfl⟩ := hd; exact XT.lcmp X.here C.exec rfl (hb C.bys hd) rfl k) h
theorem go_lceq {o : Int} {x z : Int64} {p1 : Nat} (hd1 : Dc bytes pc .lcmp 1 p1) (hd : Dc bytes p1 (.ifCond .eq o) 3 nx) (ht : (p1 : Int) + o = (tg : Nat)) (h1 : x = z → Go C tg L S H cells slots) (h2 : ¬ x = z → Go C nx L S H cells slots) : Go C pc L (.long z :: .long x :: S) H cells slots :=
  go_lcmp hd1 (go_ifeq hd ht (fun q => h1 ((lcm_eq x z).mp q)) (fun q => h2 (fun r => q ((lcm_eq x z).mpr r))))
theorem go_lcne {o : Int} {x z : Int64} {p1 : Nat} (hd1 : Dc bytes pc .lcmp 1 p1) (hd : Dc bytes p1 (.ifCond .ne o) 3 nx) (ht : (p1 : Int) + o = (tg : Nat)) (h1 : ¬ x = z → Go C tg L S H cells slots) (h2 : x = z → Go C nx L S H cells slots) : Go C pc L (.long z :: .long x :: S) H cells slots :=
  go_lcmp hd1 (go_ifne hd ht (fun q => h1 (fun r => q ((lcm_eq x z).mpr r))) (fun q => h2 ((lcm_eq x z).mp q)))
theorem go_lclt {o : Int} {x z : Int64} {p1 : Nat} (hd1 : Dc bytes pc .lcmp 1 p1) (hd : Dc bytes p1 (.ifCond .lt o) 3 nx) (ht : (p1 : Int) + o = (tg : Nat)) (h1 : x.toInt < z.toInt → Go C tg L S H cells slots) (h2 : z.toInt ≤ x.toInt → Go C nx L S H cells slots) : Go C pc L (.long z :: .long x :: S) H cells slots :=
  go_lcmp hd1 (go_iflt hd ht (fun q => h1 (by have := lcm_lt x z; omega)) (fun q => h2 (by have := lcm_lt x z; omega)))
theorem go_lcge {o : Int} {x z : Int64} {p1 : Nat} (hd1 : Dc bytes pc .lcmp 1 p1) (hd : Dc bytes p1 (.ifCond .ge o) 3 nx) (ht : (p1 : Int) + o = (tg : Nat)) (h1 : z.toInt ≤ x.toInt → Go C tg L S H cells slots) (h2 : x.toInt < z.toInt → Go C nx L S H cells slots) : Go C pc L (.long z :: .long x :: S) H cells slots :=
  go_lcmp hd1 (go_ifge hd ht (fun q => h1 (by have := lcm_lt x z; omega)) (fun q => h2 (by have := lcm_lt x z; omega)))
theorem go_lcgt {o : Int} {x z : Int64} {p1 : Nat} (hd1 : Dc bytes pc .lcmp 1 p1) (hd : Dc bytes p1 (.ifCond .gt o) 3 nx) (ht : (p1 : Int) + o = (tg : Nat)) (h1 : z.toInt < x.toInt → Go C tg L S H cells slots) (h2 : x.toInt ≤ z.toInt → Go C nx L S H cells slots) : Go C pc L (.long z :: .long x :: S) H cells slots :=
  go_lcmp hd1 (go_ifgt hd ht (fun q => h1 (by have := lcm_gt x z; omega)) (fun q => h2 (by have := lcm_gt x z; omega)))
theorem go_lcle {o : Int} {x z : Int64} {p1 : Nat} (hd1 : Dc bytes pc .lcmp 1 p1) (hd : Dc bytes p1 (.ifCond .le o) 3 nx) (ht : (p1 : Int) + o = (tg : Nat)) (h1 : x.toInt ≤ z.toInt → Go C tg L S H cells slots) (h2 : z.toInt < x.toInt → Go C nx L S H cells slots) : Go C pc L (.long z :: .long x :: S) H cells slots :=
  go_lcmp hd1 (go_ifle hd ht (fun q => h1 (by have := lcm_gt x z; omega)) (fun q => h2 (by have := lcm_gt x z; omega)))
theorem go_acmp {cd : ACond} {o : Int} {v w : Value} {same : Bool} (hd : Dc bytes pc (.if_acmp cd o) 3 nx) (hv : v.isRef = true) (hw : w.isRef = true) (hs : decide (v = w) = same) (ht : (pc : Int) + o = (tg : Nat)) (h : Go C (if acV cd same = true then tg else nx) L S H cells slots) : Go C pc L (w :: v :: S) H cells slots :=
  go_pure (fun T _ _ _ X t k => by
    obtain ⟨hd, rfl⟩ := hd
    refine Jvm.RoadKit.acmp (g := frm b m pc L (w :: v :: S)) X C.exec rfl ((isRef_up b v).trans hv) ((isRef_up b w).trans hw) (pc0 := pc) (same := same) rfl (hb C.bys hd) rfl ?_ (by omega) (pc' := if acV cd same = true then tg else pc + 3) ?_ k
    · rw [← hs]
      have : upV b v = upV b w ↔ v = w := by
        constructor
        · intro q; cases v <;> cases w <;> simp_all [upV, Value.isRef]
        · intro q; rw [q]
      simp [this]
    · congr 1; omega) h
theorem go_ifnull_null {o : Int} (hd : Dc bytes pc (.ifnull o) 3 nx) (ht : (pc : Int) + o = (tg : Nat)) (h : Go C tg L S H cells slots) : Go C pc L (.null :: S) H cells slots :=
  go_pure (fun T _ _ _ X t k => XS.ifnullYes X.here C.exec rfl (pc0 := pc) (pc' := tg) rfl (hb C.bys hd.1) rfl (by omega) (by omega) k) h
theorem go_ifnull_ref {o : Int} {a : Nat} (hd : Dc bytes pc (.ifnull o) 3 nx) (h : Go C nx L S H cells slots) : Go C pc L (.ref a :: S) H cells slots :=
  go_pure (fun T _ _ _ X t k => by obtain ⟨hd, rfl⟩ := hd; exact XS.ifnullNo X.here C.exec rfl (hb C.bys hd) rfl k) h
theorem go_ifnonnull_ref {o : Int} {a : Nat} (hd : Dc bytes pc (.ifnonnull o) 3 nx) (ht : (pc : Int) + o = (tg : Nat)) (h : Go C tg L S H cells slots) : Go C pc L (.ref a :: S) H cells slots :=
  go_pure (fun T _ _ _ X t k => XT.ifnonnullYes X.here C.exec rfl (pc0 := pc) (pc' := tg) rfl (hb C.bys hd.1) rfl (by omega) (by omega) k) h
def oneS : Slot → Bool
  | .unset => true
  | .val v => v.category == 1
  | .second => false
def notL : Slot → Bool
  | .unset => true
  | .val v => v.category == 1
  | .second => true
theorem oneS_up {o : Slot} (h : oneS o = true) : upS b o = .unset ∨ ∃ w, upS b o = .val w ∧ w.category = 1 := by
  cases o with
  | unset => exact Or.inl rfl
  | second => cases h
  | val v => exact Or.inr ⟨_, rfl, (cat_up b v).trans (by simpa [oneS] using h)⟩
theorem set_up (k : Nat) (v : Value) : (L.map (upS b)).toArray.setIfInBounds k (.val (upV b v)) = ((L.set k (.val v)).map (upS b)).toArray := by
  simp [List.map_set, upS]
theorem sto1 {k : Nat} {o : Slot} {v : Value} (hk : L[k]? = some o) (ho : oneS o = true) (hv : v.category = 1) : storeLocals (L.map (upS b)).toArray k (upV b v) = some ((L.set k (.val v)).map (upS b)).toArray := by
  rw [XS.store1 (getL hk) (oneS_up ho) ((cat_up b v).trans hv), set_up]
theorem sto2 {k : Nat} {o o' : Slot} {x : Int64} (hk : L[k]? = some o) (hk' : L[k + 1]? = some o') (ho : oneS o = true ∨ ∃ z, o = .val (.long z)) (ho' : notL o' = true) : storeLocals (L.map (upS b)).toArray k (.long x) = some (((L.set k (.val (.long x))).set (k + 1) .second).map (upS b)).toArray := by
  obtain ⟨A, hA⟩ : ∃ A, A = (L.map (upS b)).toArray := ⟨_, rfl⟩
  have e0 := getL (b := b) hk
  have e1 := getL (b := b) hk'
  have fin : ((L.map (upS b)).toArray.setIfInBounds k (.val (.long x))).setIfInBounds (k + 1) .second = (((L.set k (.val (.long x))).set (k + 1) .second).map (upS b)).toArray := by
    simp [List.map_set, upS, upV]
  rw [← fin]
  rw [← hA] at e0 e1 ⊢
  clear hA fin
  have i0 : k < A.size := (Array.getElem?_eq_some_iff.mp e0).1
  have i1 : k + 1 < A.size := (Array.getElem?_eq_some_iff.mp e1).1
  have s1 : ∀ B : Array Slot, B.size = A.size → setAt B (k + 1) .second = some (B.setIfInBounds (k + 1) .second) := fun B hB => by simp [setAt, hB, i1]
  have self : ∀ (B : Array Slot) (u : Slot), B.size = A.size → B[k + 1]? = some u → (∀ w, u = .val w → w.category ≠ 2) → storeSelf B k (.long x) = some ((B.setIfInBounds k (.val (.long x))).setIfInBounds (k + 1) .second) := by
    intro B u hB hu hc
    have e2 : (B.setIfInBounds k (.val (.long x)))[k + 1]? = some u := by
      rw [Array.getElem?_setIfInBounds_ne (by omega)]; exact hu
    have e3 : setAt B k (.val (.long x)) = some (B.setIfInBounds k (.val (.long x))) := by simp [setAt, hB, i0]
    have e4 := s1 (B.setIfInBounds k (.val (.long x))) (by simp [hB])
    unfold storeSelf
    rw [e3]
    simp only [Option.bind_eq_bind, Option.bind_some, Value.category, if_true, e2]
    cases u with
    | unset => exact e4
    | second => exact e4
    | val w =>
      have := hc w rfl
      simp only [Value.category] at this
      simp only [this, if_false]
      exact e4
  have n1 : ∀ w, upS b o' = .val w → w.category ≠ 2 := by
    intro w hw
    cases o' with
    | unset => cases hw
    | second => cases hw
    | val v => cases hw; rw [cat_up]; intro q; simp [notL, q] at ho'
  rcases ho with ho | ⟨z, rfl⟩
  · have a1 := oneS_up (b := b) ho
    have step : storeLocals A k (.long x) = storeSelf A k (.long x) := by
      rcases a1 with a1 | ⟨w, a1, a2⟩
      · simp [storeLocals, e0, a1]
      · simp [storeLocals, e0, a1, a2]
    rw [step]
    exact self A _ rfl e1 n1
  · have step : storeLocals A k (.long x) = storeSelf (A.setIfInBounds (k + 1) .unset) k (.long x) := by
      have e3 : setAt A (k + 1) .unset = some (A.setIfInBounds (k + 1) .unset) := by simp [setAt, i1]
      unfold storeLocals
      rw [e0]
      simp only [upS, upV, Option.bind_eq_bind, Option.bind_some, Value.category, if_true, e3]
    rw [step, self (A.setIfInBounds (k + 1) .unset) .unset (by simp) (by simp [i1]) (fun w hw => by cases hw)]
    congr 1
    apply Array.ext_getElem?
    intro j
    simp only [Array.getElem?_setIfInBounds]
    by_cases q : k + 1 = j
    · subst q; simp
    · simp [q]
theorem go_istore {k : Nat} {o : Slot} {x : Int32} (hd : Dc bytes pc (.istore k) 2 nx) (hk : L[k]? = some o) (ho : oneS o = true) (h : Go C nx (L.set k (.val (.int x))) S H cells slots) : Go C pc L (.int x :: S) H cells slots :=
  go_pure (fun T _ _ _ X t r => by obtain ⟨hd, rfl⟩ := hd; exact XS.istore X.here C.exec rfl (hb C.bys hd) rfl (sto1 (v := .int x) hk ho rfl) r) h
theorem go_istoreN {k : Fin 4} {o : Slot} {x : Int32} (hd : Dc bytes pc (.istore_n k) 1 nx) (hk : L[k.val]? = some o) (ho : oneS o = true) (h : Go C nx (L.set k.val (.val (.int x))) S H cells slots) : Go C pc L (.int x :: S) H cells slots :=
  go_pure (fun T _ _ _ X t r => by obtain ⟨hd, rfl⟩ := hd; exact XS.istoreN X.here C.exec rfl (hb C.bys hd) rfl (sto1 (v := .int x) hk ho rfl) r) h
theorem cat_ref {v : Value} (h : v.isRef = true) : v.category = 1 := by cases v <;> first | rfl | cases h
theorem go_astore {k : Nat} {o : Slot} {v : Value} (hd : Dc bytes pc (.astore k) 2 nx) (hk : L[k]? = some o) (ho : oneS o = true) (hv : v.isRef = true) (h : Go C nx (L.set k (.val v)) S H cells slots) : Go C pc L (v :: S) H cells slots :=
  go_pure (fun T _ _ _ X t r => by obtain ⟨hd, rfl⟩ := hd; exact XS.astore X.here C.exec rfl (hb C.bys hd) rfl ((isRef_up b v).trans hv) (sto1 (v := v) hk ho (cat_ref hv)) r) h
theorem go_astoreN {k : Fin 4} {o : Slot} {v : Value} (hd : Dc bytes pc (.astore_n k) 1 nx) (hk : L[k.val]? = some o) (ho : oneS o = true) (hv : v.isRef = true) (h : Go C nx (L.set k.val (.val v)) S H cells slots) : Go C pc L (v :: S) H cells slots :=
  go_pure (fun T _ _ _ X t r => by obtain ⟨hd, rfl⟩ := hd; exact XS.astoreN X.here C.exec rfl (hb C.bys hd) rfl ((isRef_up b v).trans hv) (sto1 (v := v) hk ho (cat_ref hv)) r) h
theorem go_lstore {k : Nat} {o o' : Slot} {x : Int64} (hd : Dc bytes pc (.lstore k) 2 nx) (hk : L[k]? = some o) (hk' : L[k + 1]? = some o') (ho : oneS o = true ∨ ∃ z, o = .val (.long z)) (ho' : notL o' = true) (h : Go C nx ((L.set k (.val (.long x))).set (k + 1) .second) S H cells slots) : Go C pc L (.long x :: S) H cells slots :=
  go_pure (fun T _ _ _ X t r => by obtain ⟨hd, rfl⟩ := hd; exact XT.lstore X.here C.exec rfl (hb C.bys hd) rfl (sto2 hk hk' ho ho') r) h
theorem go_lstoreN {k : Fin 4} {o o' : Slot} {x : Int64} (hd : Dc bytes pc (.lstore_n k) 1 nx) (hk : L[k.val]? = some o) (hk' : L[k.val + 1]? = some o') (ho : oneS o = true ∨ ∃ z, o = .val (.long z)) (ho' : notL o' = true) (h : Go C nx ((L.set k.val (.val (.long x))).set (k.val + 1) .second) S H cells slots) : Go C pc L (.long x :: S) H cells slots :=
  go_pure (fun T _ _ _ X t r => by obtain ⟨hd, rfl⟩ := hd; exact XT.lstoreN X.here C.exec rfl (hb C.bys hd) rfl (sto2 hk hk' ho ho') r) h
theorem go_iinc {k : Nat} {i : Int} {x z : Int32} (hd : Dc bytes pc (.iinc k i) 3 nx) (hk : L[k]? = some (.val (.int x))) (hz : Int32.ofInt i = z) (h : Go C nx (L.set k (.val (.int (x + z)))) S H cells slots) : Go C pc L S H cells slots :=
  go_pure (fun T _ _ _ X t r => by obtain ⟨hd, rfl⟩ := hd; subst hz; exact XS.iinc X.here C.exec rfl (hb C.bys hd) (getL hk) (sto1 (v := .int (x + Int32.ofInt i)) hk rfl rfl) r) h
/-! ### the heap -/
theorem cell_arr {i : Nat} {ty : FieldType} {vs : List Value} {h : Heap} (RR : Rel Z a0 b H h) (hH : H[i]? = some (ar ty vs)) : ∃ c : Cell, Arr Z h (b + i) c ty ∧ c.slots = (vs.map (upV b)).toArray := RR.2 i _ hH
theorem idx_ok {j : Int32} {k n : Nat} (hj : j.toInt = (k : Int)) (hk : k < n) : ¬ (j < 0 ∨ n ≤ j.toNatClampNeg) := by
  rw [Int32.lt_iff_toInt_lt]
  have e0 : (0 : Int32).toInt = 0 := rfl
  simp only [Int32.toNatClampNeg, hj, e0]
  omega
theorem clamp_eq {j : Int32} {k : Nat} (hj : j.toInt = (k : Int)) : j.toNatClampNeg = k := by simp [Int32.toNatClampNeg, hj]
theorem go_iaload {i k : Nat} {vs : List Value} {j : Int32} {v : Value} (hd : Dc bytes pc .iaload 1 nx) (hH : H[i]? = some (ar .int vs)) (hj : j.toInt = (k : Int)) (hv : vs[k]? = some v) (h : Go C nx L (v :: S) H cells slots) : Go C pc L (.int j :: .ref i :: S) H cells slots := by
  intro T locs X N RR
  obtain ⟨c1, A, e1⟩ := cell_arr RR hH
  obtain ⟨hd, rfl⟩ := hd
  have hk : k < vs.length := (List.getElem?_eq_some_iff.mp hv).1
  exact (h T locs X N RR).back fun t r => X.iaload C.exec A.1 (State.isArrayOf_alike C.warm.alike A.2.1) A.2.2 (idx_ok hj (by rw [e1]; simpa using hk)) (by rw [clamp_eq hj, e1]; simp [hv]) (g := frm b m pc L (.int j :: .ref i :: S)) rfl rfl (hb C.bys hd) t r
theorem go_laload {i k : Nat} {vs : List Value} {j : Int32} {v : Value} (hd : Dc bytes pc .laload 1 nx) (hH : H[i]? = some (ar .long vs)) (hj : j.toInt = (k : Int)) (hv : vs[k]? = some v) (h : Go C nx L (v :: S) H cells slots) : Go C pc L (.int j :: .ref i :: S) H cells slots := by
  intro T locs X N RR
  obtain ⟨c1, A, e1⟩ := cell_arr RR hH
  obtain ⟨hd, rfl⟩ := hd
  have hk : k < vs.length := (List.getElem?_eq_some_iff.mp hv).1
  exact (h T locs X N RR).back fun t r => X.laload C.exec A.1 (State.isArrayOf_alike C.warm.alike A.2.1) A.2.2 (idx_ok hj (by rw [e1]; simpa using hk)) (by rw [clamp_eq hj, e1]; simp [hv]) (g := frm b m pc L (.int j :: .ref i :: S)) rfl rfl (hb C.bys hd) t r
theorem go_baload {i k : Nat} {vs : List Value} {j : Int32} {v : Value} (hd : Dc bytes pc .baload 1 nx) (hH : H[i]? = some (ar .byte vs)) (hj : j.toInt = (k : Int)) (hv : vs[k]? = some v) (h : Go C nx L (v :: S) H cells slots) : Go C pc L (.int j :: .ref i :: S) H cells slots := by
  intro T locs X N RR
  obtain ⟨c1, A, e1⟩ := cell_arr RR hH
  obtain ⟨hd, rfl⟩ := hd
  have hk : k < vs.length := (List.getElem?_eq_some_iff.mp hv).1
  exact (h T locs X N RR).back fun t r => X.baloadBytes C.exec A.1 (State.isArrayOf_alike C.warm.alike A.2.1) A.2.2 (idx_ok hj (by rw [e1]; simpa using hk)) (by rw [clamp_eq hj, e1]; simp [hv]) (g := frm b m pc L (.int j :: .ref i :: S)) rfl rfl (hb C.bys hd) t r
theorem go_zaload {i k : Nat} {vs : List Value} {j : Int32} {v : Value} (hd : Dc bytes pc .baload 1 nx) (hH : H[i]? = some (ar .boolean vs)) (hj : j.toInt = (k : Int)) (hv : vs[k]? = some v) (h : Go C nx L (v :: S) H cells slots) : Go C pc L (.int j :: .ref i :: S) H cells slots := by
  intro T locs X N RR
  obtain ⟨c1, A, e1⟩ := cell_arr RR hH
  obtain ⟨hd, rfl⟩ := hd
  have hk : k < vs.length := (List.getElem?_eq_some_iff.mp hv).1
  exact (h T locs X N RR).back fun t r => X.baloadBooleans C.exec A.1 (State.isArrayOf_alike C.warm.alike A.2.1) A.2.2 (idx_ok hj (by rw [e1]; simpa using hk)) (by rw [clamp_eq hj, e1]; simp [hv]) (g := frm b m pc L (.int j :: .ref i :: S)) rfl rfl (hb C.bys hd) t r
theorem go_aaload {i k : Nat} {ty : FieldType} {vs : List Value} {j : Int32} {v : Value} (hd : Dc bytes pc .aaload 1 nx) (hH : H[i]? = some (ar ty vs)) (hty : ty.isReference = true) (hj : j.toInt = (k : Int)) (hv : vs[k]? = some v) (h : Go C nx L (v :: S) H cells slots) : Go C pc L (.int j :: .ref i :: S) H cells slots := by
  intro T locs X N RR
  obtain ⟨c1, A, e1⟩ := cell_arr RR hH
  obtain ⟨hd, rfl⟩ := hd
  have hk : k < vs.length := (List.getElem?_eq_some_iff.mp hv).1
  exact (h T locs X N RR).back fun t r => X.aaload C.exec A.1 (State.isArrayOf_alike C.warm.alike A.2.1) hty A.2.2 (idx_ok hj (by rw [e1]; simpa using hk)) (by rw [clamp_eq hj, e1]; simp [hv]) (g := frm b m pc L (.int j :: .ref i :: S)) rfl rfl (hb C.bys hd) t r
theorem go_len {i : Nat} {ty : FieldType} {vs : List Value} {n : Int32} (hd : Dc bytes pc .arraylength 1 nx) (hH : H[i]? = some (ar ty vs)) (hn : vs.length.toInt32 = n) (h : Go C nx L (.int n :: S) H cells slots) : Go C pc L (.ref i :: S) H cells slots := by
  intro T locs X N RR
  obtain ⟨c1, A, e1⟩ := cell_arr RR hH
  obtain ⟨hd, rfl⟩ := hd
  subst hn
  refine (h T locs X N RR).back fun t k => X.arraylength C.exec A.1 (State.isArrayOf_alike C.warm.alike A.2.1) (g := frm b m pc L (.ref i :: S)) rfl rfl (hb C.bys hd) t ?_
  have e2 : c1.slots.size = vs.length := by rw [e1]; simp
  rw [e2]
  exact k
theorem go_getfield {i j idx : Nat} {Cn n d : String} {fs : List (String × String × Value)} {v : Value} (hd : Dc bytes pc (.getfield idx) 3 nx) (w : Jvm.Cond.fieldLink y.cls idx Cn n d ∈ W) (hH : H[i]? = some (ob Cn fs)) (hf : fs[j]? = some (n, d, v)) (h : Go C nx L (v :: S) H cells slots) : Go C pc L (.ref i :: S) H cells slots := by
  intro T locs X N RR
  obtain ⟨hd, rfl⟩ := hd
  have K : CellOk Z a0 b T.heap (b + i) (ob Cn fs) := RR.2 i _ hH
  obtain ⟨T1, X1, e1, st⟩ := getF X C.exec C.warm C.own (host := "") (Or.inl (C.hw _ w)) Via.refl rfl (K.2.1 _ (List.mem_of_getElem? hf)).1 (g := frm b m pc L (.ref i :: S)) rfl rfl (hb C.bys hd)
  exact (h T1 locs X1 N (by rw [e1]; exact RR)).back st
theorem go_getfieldN {i j idx : Nat} {Cn n d host : String} {fs : List (String × String × Value)} {v : Value} (hd : Dc bytes pc (.getfield idx) 3 nx) (w : Jvm.Cond.fieldLinkNest y.cls idx Cn n d host ∈ W) (hH : H[i]? = some (ob Cn fs)) (hf : fs[j]? = some (n, d, v)) (h : Go C nx L (v :: S) H cells slots) : Go C pc L (.ref i :: S) H cells slots := by
  intro T locs X N RR
  obtain ⟨hd, rfl⟩ := hd
  have K : CellOk Z a0 b T.heap (b + i) (ob Cn fs) := RR.2 i _ hH
  obtain ⟨T1, X1, e1, st⟩ := getF X C.exec C.warm C.own (Or.inr (C.hw _ w)) Via.refl rfl (K.2.1 _ (List.mem_of_getElem? hf)).1 (g := frm b m pc L (.ref i :: S)) rfl rfl (hb C.bys hd)
  exact (h T1 locs X1 N (by rw [e1]; exact RR)).back st
theorem go_putfieldN {i j idx kk : Nat} {Cn n d : String} {fs : List (String × String × Value)} {v v' o : Value} {ty : FieldType} (hd : Dc bytes pc (.putfield idx) 3 nx) (w : Jvm.Cond.fieldLink y.cls idx Cn n d ∈ W) (wl : Jvm.Cond.lays Cn Cn n d ∈ W ∨ (Jvm.Cond.laysFinal Cn Cn n d ∈ W ∧ y.cls = Cn ∧ y.name = "<init>")) (wi : Jvm.Cond.instantiable Cn kk ∈ W) (hty : parseFieldDescriptor d = some ty) (hH : H[i]? = some (ob Cn fs)) (hf : fs[j]? = some (n, d, o)) (hn : narrow ty (upV b v) = upV b v') (hfit : fits ty (upV b v') = true)
    (h : Go C nx L S (H.set i (ob Cn (fs.set j (n, d, v')))) cells slots) : Go C pc L (v :: .ref i :: S) H cells slots := by
  intro T locs X N RR
  obtain ⟨hd, rfl⟩ := hd
  have K : CellOk Z a0 b T.heap (b + i) (ob Cn fs) := RR.2 i _ hH
  obtain ⟨T1, h1, X1, e1, W1, st⟩ := putFN X C.exec C.warm C.own (C.hw _ w) Via.refl rfl (K.2.1 _ (List.mem_of_getElem? hf)).1 K.1 (wl.imp (fun q => C.hw _ q) (fun q => ⟨C.hw _ q.1, q.2.1, C.named.trans q.2.2⟩)) (C.hw _ wi) hty hn hfit (g := frm b m pc L (v :: .ref i :: S)) rfl rfl (hb C.bys hd)
  exact (h T1 _ X1 (Fr.snoc X1 N (Nat.le_add_right ..)) (by rw [e1]; exact RR.wr W1 (K.fset hf W1))).back st
theorem go_putfield {i j idx kk : Nat} {Cn n d : String} {fs : List (String × String × Value)} {v o : Value} {ty : FieldType} (hd : Dc bytes pc (.putfield idx) 3 nx) (w : Jvm.Cond.fieldLink y.cls idx Cn n d ∈ W) (wl : Jvm.Cond.lays Cn Cn n d ∈ W ∨ (Jvm.Cond.laysFinal Cn Cn n d ∈ W ∧ y.cls = Cn ∧ y.name = "<init>")) (wi : Jvm.Cond.instantiable Cn kk ∈ W) (hty : parseFieldDescriptor d = some ty) (hH : H[i]? = some (ob Cn fs)) (hf : fs[j]? = some (n, d, o)) (hn : narrow ty (upV b v) = upV b v) (hfit : fits ty (upV b v) = true)
    (h : Go C nx L S (H.set i (ob Cn (fs.set j (n, d, v)))) cells slots) : Go C pc L (v :: .ref i :: S) H cells slots := go_putfieldN hd w wl wi hty hH hf hn hfit h
theorem go_iastore {i k : Nat} {vs : List Value} {j : Int32} {x : Int32} (hd : Dc bytes pc .iastore 1 nx) (hH : H[i]? = some (ar .int vs)) (hj : j.toInt = (k : Int)) (hk : k < vs.length) (h : Go C nx L S (H.set i (ar .int (vs.set k (.int (x))))) cells slots) : Go C pc L (.int x :: .int j :: .ref i :: S) H cells slots := by
  intro T locs X N RR
  obtain ⟨c1, A, e1⟩ := cell_arr RR hH
  obtain ⟨hd, rfl⟩ := hd
  obtain ⟨T1, h1, X1, eh, W1, st⟩ := stI X C.exec C.warm rfl A (j := j) (idx_ok hj (by rw [e1]; simpa using hk)) (g := frm b m pc L (.int x :: .int j :: .ref i :: S)) rfl rfl (hb C.bys hd)
  rw [clamp_eq hj] at W1
  have K : CellOk Z a0 b h1 (b + i) (ar .int (vs.set k (.int (x)))) := ⟨_, A.same W1, by simp [Cell.setSlot, e1, List.map_set, upV, nar]⟩
  exact (h T1 _ X1 (Fr.snoc X1 N (Nat.le_add_right ..)) (by rw [eh]; exact RR.wr W1 K)).back st
theorem go_lastore {i k : Nat} {vs : List Value} {j : Int32} {x : Int64} (hd : Dc bytes pc .lastore 1 nx) (hH : H[i]? = some (ar .long vs)) (hj : j.toInt = (k : Int)) (hk : k < vs.length) (h : Go C nx L S (H.set i (ar .long (vs.set k (.long (x))))) cells slots) : Go C pc L (.long x :: .int j :: .ref i :: S) H cells slots := by
  intro T locs X N RR
  obtain ⟨c1, A, e1⟩ := cell_arr RR hH
  obtain ⟨hd, rfl⟩ := hd
  obtain ⟨T1, h1, X1, eh, W1, st⟩ := stJ X C.exec C.warm rfl A (j := j) (idx_ok hj (by rw [e1]; simpa using hk)) (g := frm b m pc L (.long x :: .int j :: .ref i :: S)) rfl rfl (hb C.bys hd)
  rw [clamp_eq hj] at W1
  have K : CellOk Z a0 b h1 (b + i) (ar .long (vs.set k (.long (x)))) := ⟨_, A.same W1, by simp [Cell.setSlot, e1, List.map_set, upV, nar]⟩
  exact (h T1 _ X1 (Fr.snoc X1 N (Nat.le_add_right ..)) (by rw [eh]; exact RR.wr W1 K)).back st
theorem go_bastore {i k : Nat} {vs : List Value} {j : Int32} {x : Int32} (hd : Dc bytes pc .bastore 1 nx) (hH : H[i]? = some (ar .byte vs)) (hj : j.toInt = (k : Int)) (hk : k < vs.length) (h : Go C nx L S (H.set i (ar .byte (vs.set k (.int (x.toInt8.toInt32))))) cells slots) : Go C pc L (.int x :: .int j :: .ref i :: S) H cells slots := by
  intro T locs X N RR
  obtain ⟨c1, A, e1⟩ := cell_arr RR hH
  obtain ⟨hd, rfl⟩ := hd
  obtain ⟨T1, h1, X1, eh, W1, st⟩ := stB X C.exec C.warm rfl A (j := j) (idx_ok hj (by rw [e1]; simpa using hk)) (g := frm b m pc L (.int x :: .int j :: .ref i :: S)) rfl rfl (hb C.bys hd)
  rw [clamp_eq hj] at W1
  have K : CellOk Z a0 b h1 (b + i) (ar .byte (vs.set k (.int (x.toInt8.toInt32)))) := ⟨_, A.same W1, by simp [Cell.setSlot, e1, List.map_set, upV, nar]⟩
  exact (h T1 _ X1 (Fr.snoc X1 N (Nat.le_add_right ..)) (by rw [eh]; exact RR.wr W1 K)).back st
theorem go_zastore {i k : Nat} {vs : List Value} {j : Int32} {x : Int32} (hd : Dc bytes pc .bastore 1 nx) (hH : H[i]? = some (ar .boolean vs)) (hj : j.toInt = (k : Int)) (hk : k < vs.length) (h : Go C nx L S (H.set i (ar .boolean (vs.set k (.int (x &&& 1))))) cells slots) : Go C pc L (.int x :: .int j :: .ref i :: S) H cells slots := by
  intro T locs X N RR
  obtain ⟨c1, A, e1⟩ := cell_arr RR hH
  obtain ⟨hd, rfl⟩ := hd
  obtain ⟨T1, h1, X1, eh, W1, st⟩ := stZ X C.exec C.warm rfl A (j := j) (idx_ok hj (by rw [e1]; simpa using hk)) (g := frm b m pc L (.int x :: .int j :: .ref i :: S)) rfl rfl (hb C.bys hd)
  rw [clamp_eq hj] at W1
  have K : CellOk Z a0 b h1 (b + i) (ar .boolean (vs.set k (.int (x &&& 1)))) := ⟨_, A.same W1, by simp [Cell.setSlot, e1, List.map_set, upV, nar]⟩
  exact (h T1 _ X1 (Fr.snoc X1 N (Nat.le_add_right ..)) (by rw [eh]; exact RR.wr W1 K)).back st
/-- the fields of a new object, laid -/
def Laids (Z : State) (a0 : Array Value) (b : Nat) (Cn : String) : List (String × String × Value) → Prop
  | [] => True
  | f :: fs => (Laid Z a0 Cn Cn f.1 f.2.1 ∧ ∃ t, parseFieldDescriptor f.2.1 = some t ∧ defaultValue t = upV b f.2.2) ∧ Laids Z a0 b Cn fs
theorem Laids.all {Cn : String} : ∀ {fs : List (String × String × Value)}, Laids Z a0 b Cn fs → ∀ f ∈ fs, Laid Z a0 Cn Cn f.1 f.2.1 ∧ ∃ t, parseFieldDescriptor f.2.1 = some t ∧ defaultValue t = upV b f.2.2
  | [], _, f, hf => by cases hf
  | g :: gs, h, f, hf => by
    rcases List.mem_cons.mp hf with rfl | hf
    · exact h.1
    · exact Laids.all h.2 f hf
theorem go_new {idx n : Nat} {Cn : String} {fs : List (String × String × Value)} (hd : Dc bytes pc (.new idx) 3 nx) (w : Jvm.Cond.classLink y.cls idx Cn ∈ W) (wi : Jvm.Cond.instantiable Cn n ∈ W) (wz : Jvm.Cond.initialized Cn ∈ W) (hl : Laids Z a0 b Cn fs) (hnd : (fs.map (·.1)).Nodup) (hc : cells + 1 ≤ R.cells) (hs : slots + n ≤ R.slots)
    (h : Go C nx L (.ref H.length :: S) (H ++ [ob Cn fs]) (cells + 1) (slots + n)) : Go C pc L S H cells slots := by
  intro T locs X N RR
  obtain ⟨hd, rfl⟩ := hd
  obtain ⟨vm', cC, kC, h1, h2, h3, h4, X', st⟩ := X.newCold C.exec C.own (mv C.warm (C.hw _ w)) (mv C.warm (C.hw _ wi)) (mv C.warm (C.hw _ wz)) (g := frm b m pc L S) rfl (hb C.bys hd) hc hs
  rw [C.warm.alike.findClass] at h1
  obtain ⟨kZ, z1, -⟩ := Vm.findClass_spec h1
  obtain ⟨k', z2, z3⟩ := C.warm.alike.2.2 _ _ z1
  cases h2.symm.trans z2
  have ei : kC.instanceTypes = kZ.instanceTypes := by rw [z3]
  have hN : (T.heap.push { cls := cC, slots := kC.instanceTypes.map defaultValue, vm := .none })[T.heap.size]? = some { cls := cC, slots := kC.instanceTypes.map defaultValue, vm := .none } := by simp
  have hE : Ext T.heap (T.heap.push { cls := cC, slots := kC.instanceTypes.map defaultValue, vm := .none }) := ⟨by simp, fun a c q => by
    rw [Array.getElem?_push_lt (Array.getElem?_eq_some_iff.mp q).1]; exact (Array.getElem?_eq_getElem _).symm.trans q⟩
  have ea : T.heap.size = b + H.length := RR.1
  have st2 := st
  rw [ea] at st2
  refine (h _ locs X' N (RR.push hE (by simp) ?_)).back st2
  rw [← ea]
  refine ⟨⟨_, kZ, hN, h1, z1, rfl, fun _ => by simp [ei]⟩, fun f hf => ?_, hnd⟩
  obtain ⟨La, t, ht, hdv⟩ := hl.all f hf
  refine ⟨?_, La, t, ht⟩
  obtain ⟨c1, k1, cf, kf, i, ff, a1, a2, a3, a4, a5, a6, -⟩ := La.spec
  cases h1.symm.trans a1
  cases z1.symm.trans a2
  exact ⟨_, cf, kf, i, ff, hN, a3, a4, by simp, rfl, a5, by simp [ei, a6, (State.fieldFound?_type a3 ht).2, hdv]⟩
theorem up_default (t : FieldType) : upV b (defaultValue t) = defaultValue t := by cases t <;> rfl
theorem go_newarray {aty : ArrayType} {n : Int32} {k cap : Nat} {vs : List Value} (hd : Dc bytes pc (.newarray aty) 2 nx) (w : Jvm.Cond.arrayClass (newarray.typeOf aty) ∈ W) (hn : n.toInt = (k : Int)) (hv : List.replicate k (defaultValue (newarray.typeOf aty)) = vs) (hcap : k ≤ cap) (hbig : cap * 8 ≤ 536870912) (hc : cells + 1 ≤ R.cells) (hs : slots + cap ≤ R.slots)
    (h : Go C nx L (.ref H.length :: S) (H ++ [ar (newarray.typeOf aty) vs]) (cells + 1) (slots + cap)) : Go C pc L (.int n :: S) H cells slots := by
  intro T locs X N RR
  obtain ⟨hd, rfl⟩ := hd
  have hcb : componentBytes (newarray.typeOf aty) ≤ 8 := by cases aty <;> decide
  have ek := clamp_eq hn
  obtain ⟨cA, kA, comp, h1, h2, h3, X', st⟩ := X.newarrayPrim C.exec (mvA C.warm (C.hw _ w)) (g := frm b m pc L (.int n :: S)) rfl (hb C.bys hd) rfl (by rw [Int32.lt_iff_toInt_lt, hn]; have : (0 : Int32).toInt = 0 := rfl; omega) (by rw [ek]; exact Nat.le_trans (Nat.mul_le_mul hcap hcb) hbig) hc (by omega)
  rw [ek] at X' st
  rw [C.warm.alike.findClass] at h1
  obtain ⟨kZ, z1, -⟩ := Vm.findClass_spec h1
  obtain ⟨k', z2, z3⟩ := C.warm.alike.2.2 _ _ z1
  cases h2.symm.trans z2
  have ea : T.heap.size = b + H.length := RR.1
  have hE : Ext T.heap (T.heap.push { cls := cA, slots := Array.replicate k (defaultValue (newarray.typeOf aty)), vm := .none }) := ⟨by simp, fun a c q => by
    rw [Array.getElem?_push_lt (Array.getElem?_eq_some_iff.mp q).1]; exact (Array.getElem?_eq_getElem _).symm.trans q⟩
  have st2 := st
  rw [ea] at st2
  refine (h _ locs (X'.more (Nat.le_refl _) (by omega)) N (RR.push hE (by simp) ?_)).back st2
  rw [← ea]
  refine ⟨_, ⟨by show (T.heap.push _)[T.heap.size]? = _; simp; rfl, ⟨by simp, kZ, z1, comp, by rw [← h3, z3]⟩, by simp⟩, ?_⟩
  subst hv
  simp [up_default]
/-! ### calls -/
theorem go_initO {idx : Nat} (hd : Dc bytes pc (.invokespecial idx) 3 nx) (w1 : Jvm.Cond.methodLink y.cls idx Lib.objectInit ∈ W) (w2 : Jvm.Cond.instanceMethod Lib.objectInit ∈ W) (w3 : Jvm.Cond.code Lib.objectInit ⟨#[0xb1]⟩ 1 none ∈ W) (hL : L.length = nL) (hf : 1 ≤ R.frames) (wdt : Nat) (hwd : (S.map Value.category).sum ≤ wdt) (hlo : wdt + 12 ≤ R.locals) {i : Nat}
    (h : Go C nx L S H cells slots) : Go C pc L (.ref i :: S) H cells slots := by
  intro T locs X N RR
  obtain ⟨hd, rfl⟩ := hd
  obtain ⟨T1, X1, e1, st⟩ := initO X C.exec C.warm C.own (C.hw _ w1) (C.hw _ w2) (C.hw _ w3) rfl (g := frm b m pc L (.ref i :: S)) rfl (by simp [C.ml, hL]) rfl (hb C.bys hd) hf (W := wdt) (by
    have : ((S.map (upV b)).map fun v => v.category) = S.map Value.category := by rw [List.map_map]; exact List.map_congr_left fun v _ => cat_up b v
    show 2 * 0 + ((S.map (upV b)).map fun v => v.category).sum ≤ wdt
    rw [this]; omega) hlo
  exact (h T1 locs X1 N (by rw [e1]; exact RR)).back st
theorem wid_up (wdt : Nat) (hwd : (S.map Value.category).sum ≤ wdt) : 2 * 0 + ((S.map (upV b)).map fun v => v.category).sum ≤ wdt := by
  have : ((S.map (upV b)).map fun v => v.category) = S.map Value.category := by rw [List.map_map]; exact List.map_congr_left fun v _ => cat_up b v
  rw [this]; omega
theorem app_up (v : Option Value) : (v.map (upV b)).toList ++ S.map (upV b) = (v.toList ++ S).map (upV b) := by cases v <;> rfl
theorem go_virtual {y' : MethodName} {bytes' : ByteArray} {maxL : Nat} {ret' : Option FieldType} {rm : Room} {as : List Value} {i idx : Nat} {Cn : String} {fs : List (String × String × Value)} {P : Option Value → List GCell → Prop} {ps : List FieldType} {rt : Option FieldType}
    (hd : Dc bytes pc (.invokevirtual idx) 3 nx) (w1 : Jvm.Cond.methodLink y.cls idx y' ∈ W) (w2 : Jvm.Cond.declares y' ∈ W) (w3 : Jvm.Cond.selects Cn y' y' ∈ W) (w4 : Jvm.Cond.instanceMethod y' ∈ W) (w5 : Jvm.Cond.code y' bytes' maxL ret' ∈ W) (w6 : Jvm.Cond.initialized y'.cls ∈ W)
    (hy : y'.cls ≠ "java/lang/invoke/MethodHandle" ∧ y'.cls ≠ "java/lang/invoke/VarHandle") (hdesc : parseMethodDescriptor y'.desc = some ⟨ps, rt⟩) (hlen : as.length = ps.length)
    (M : Met l Z a0 b y' bytes' maxL ret' rm (.ref i :: as) H P) (hH : H[i]? = some (ob Cn fs)) (hS : S' = as.reverse ++ .ref i :: S) (hL : L.length = nL) (wdt : Nat) (hwd : (S.map Value.category).sum ≤ wdt)
    (hfr : rm.frames + 1 ≤ R.frames) (hlo : wdt + (maxL + 11) + rm.locals ≤ R.locals) (hc : cells + rm.cells ≤ R.cells) (hs : slots + rm.slots ≤ R.slots)
    (h : ∀ v H', P v H' → Go C nx L (v.toList ++ S) H' (cells + rm.cells) (slots + rm.slots)) : Go C pc L S' H cells slots := by
  intro T locs X N RR
  obtain ⟨hd, rfl⟩ := hd
  subst hS
  have E : Exa Z T.heap (b + i) Cn := (show CellOk Z a0 b T.heap (b + i) (ob Cn fs) from RR.2 i _ hH).1
  obtain ⟨cB, kB, q1, q2, q3⟩ := isOf (T := T) C.warm rfl E
  obtain ⟨_, _, ⟨T', L', k', n'⟩, -, X', ⟨Lc, hQ, l', y1, z1⟩, st⟩ := X.virtualBack C.exec (y := y') (z := y') C.own (mvT C.warm (C.hw _ w1)) (mvT C.warm (C.hw _ w2)) (notFace_of_selects (args := #[]) (mvT C.warm (C.hw _ w3))) (mvT C.warm (C.hw _ w3)) (mvT C.warm (C.hw _ w4)) hy
    (backOf (W := wdt) (M T.heap RR []) C.warm (C.hw _ w5) (C.hw _ w6) hfr hlo) q1 q3 (g := frm b m pc L (as.reverse ++ .ref i :: S)) rfl (by simp [C.ml, hL]) (Steps.refl _) (argsL := as.map (upV b)) (rest := S.map (upV b)) (lenOf hdesc (by simp [hlen])) (by simp [upV]) (wid_up wdt hwd) (hb C.bys hd) (fun _ _ => ⟨by simp [upV], rfl, hc, hs⟩)
  dsimp only [Pt.U, Pt.locs, Pt.cells, Pt.slots] at X' l' y1 z1 st hQ
  subst l' y1 z1
  obtain ⟨N2, v', H', rfl, RR', hP⟩ := hQ
  refine (h v' H' hP T' _ X' (Fr.app N N2) RR').back fun t k => st.trans ?_
  rw [app_up]
  exact k
theorem go_special {y' : MethodName} {bytes' : ByteArray} {maxL : Nat} {rm : Room} {as : List Value} {i idx : Nat} {P : Option Value → List GCell → Prop} {ps : List FieldType} {rt : Option FieldType} (hn : y'.name = "<init>")
    (hd : Dc bytes pc (.invokespecial idx) 3 nx) (w1 : Jvm.Cond.methodLink y.cls idx y' ∈ W) (w4 : Jvm.Cond.instanceMethod y' ∈ W) (w5 : Jvm.Cond.code y' bytes' maxL none ∈ W) (w6 : Jvm.Cond.initialized y'.cls ∈ W)
    (hy : y'.cls ≠ "java/lang/invoke/MethodHandle" ∧ y'.cls ≠ "java/lang/invoke/VarHandle") (hdesc : parseMethodDescriptor y'.desc = some ⟨ps, rt⟩) (hlen : as.length = ps.length)
    (M : Met l Z a0 b y' bytes' maxL none rm (.ref i :: as) H P) (hS : S' = as.reverse ++ .ref i :: S) (hL : L.length = nL) (wdt : Nat) (hwd : (S.map Value.category).sum ≤ wdt)
    (hfr : rm.frames + 1 ≤ R.frames) (hlo : wdt + (maxL + 11) + rm.locals ≤ R.locals) (hc : cells + rm.cells ≤ R.cells) (hs : slots + rm.slots ≤ R.slots)
    (h : ∀ v H', P v H' → Go C nx L (v.toList ++ S) H' (cells + rm.cells) (slots + rm.slots)) : Go C pc L S' H cells slots := by
  intro T locs X N RR
  obtain ⟨hd, rfl⟩ := hd
  subst hS
  obtain ⟨_, _, ⟨T', L', k', n'⟩, -, X', ⟨Lc, hQ, l', y1, z1⟩, st⟩ := X.specialBack C.exec (y := y') hn C.own (mvT C.warm (C.hw _ w1)) (mvT C.warm (C.hw _ w4)) (mvT C.warm (C.hw _ w5)) hy
    (backOf (W := wdt) (M T.heap RR []) C.warm (C.hw _ w5) (C.hw _ w6) hfr hlo) (g := frm b m pc L (as.reverse ++ .ref i :: S)) rfl (by simp [C.ml, hL]) (Steps.refl _) (a := b + i) (argsL := as.map (upV b)) (rest := S.map (upV b)) (lenOf hdesc (by simp [hlen])) (by simp [upV]) (wid_up wdt hwd) (hb C.bys hd) (fun _ _ => ⟨by simp [upV], rfl, hc, hs⟩)
  dsimp only [Pt.U, Pt.locs, Pt.cells, Pt.slots] at X' l' y1 z1 st hQ
  subst l' y1 z1
  obtain ⟨N2, v', H', rfl, RR', hP⟩ := hQ
  refine (h v' H' hP T' _ X' (Fr.app N N2) RR').back fun t k => st.trans ?_
  rw [app_up]
  exact k
theorem go_static {y' : MethodName} {bytes' : ByteArray} {maxL : Nat} {ret' : Option FieldType} {rm : Room} {as : List Value} {idx : Nat} {P : Option Value → List GCell → Prop} {ps : List FieldType} {rt : Option FieldType}
    (hd : Dc bytes pc (.invokestatic idx) 3 nx) (w1 : Jvm.Cond.methodLink y.cls idx y' ∈ W) (w2 : Jvm.Cond.static y' ∈ W) (w5 : Jvm.Cond.code y' bytes' maxL ret' ∈ W) (w6 : Jvm.Cond.initialized y'.cls ∈ W)
    (hy : y'.cls ≠ "java/lang/invoke/MethodHandle" ∧ y'.cls ≠ "java/lang/invoke/VarHandle") (hdesc : parseMethodDescriptor y'.desc = some ⟨ps, rt⟩) (hlen : as.length = ps.length)
    (M : Met l Z a0 b y' bytes' maxL ret' rm as H P) (hS : S' = as.reverse ++ S) (hL : L.length = nL) (wdt : Nat) (hwd : (S.map Value.category).sum ≤ wdt)
    (hfr : rm.frames + 1 ≤ R.frames) (hlo : wdt + (maxL + 11) + rm.locals ≤ R.locals) (hc : cells + rm.cells ≤ R.cells) (hs : slots + rm.slots ≤ R.slots)
    (h : ∀ v H', P v H' → Go C nx L (v.toList ++ S) H' (cells + rm.cells) (slots + rm.slots)) : Go C pc L S' H cells slots := by
  intro T locs X N RR
  obtain ⟨hd, rfl⟩ := hd
  subst hS
  obtain ⟨_, _, ⟨T', L', k', n'⟩, -, X', ⟨Lc, hQ, l', y1, z1⟩, st⟩ := Jvm.LawKit.callS X C.exec (y := y') C.own (mvT C.warm (C.hw _ w1)) (mvT C.warm (C.hw _ w2)) (mvT C.warm (C.hw _ w6)) (mvT C.warm (C.hw _ w5)) hy
    (backOf (W := wdt) (M T.heap RR []) C.warm (C.hw _ w5) (C.hw _ w6) hfr hlo) (g := frm b m pc L (as.reverse ++ S)) rfl (by simp [C.ml, hL]) (argsL := as.map (upV b)) (rest := S.map (upV b)) (lenOf hdesc (by simp [hlen])) (by simp) (wid_up wdt hwd) (hb C.bys hd) (fun _ _ => ⟨by simp, rfl, hc, hs⟩)
  dsimp only [Pt.U, Pt.locs, Pt.cells, Pt.slots] at X' l' y1 z1 st hQ
  subst l' y1 z1
  obtain ⟨N2, v', H', rfl, RR', hP⟩ := hQ
  refine (h v' H' hP T' _ X' (Fr.app N N2) RR').back fun t k => st _ ?_
  rw [app_up]
  exact k
/-! ### the end -/
theorem go_ret {w w' : Value} {t : FieldType} {i : Instr} (hd : Dc bytes pc i 1 nx) (hret : ret = some t) (hn : narrow t (upV b w) = upV b w)
    (hi : (i = .ireturn ∧ (t = .int ∨ t = .boolean ∨ t = .byte ∨ t = .char ∨ t = .short) ∧ ∃ z, w = .int z) ∨ (i = .lreturn ∧ t = .long ∧ ∃ z, w = .long z) ∨ (i = .areturn ∧ t.isReference = true ∧ w.isRef = true))
    (hc : cells ≤ R.cells) (hs : slots ≤ R.slots) (h : Post (some w) H) : Go C pc L (w :: S) H cells slots := by
  intro T locs X N RR
  obtain ⟨fs, hr, hrun, hended, hW, hsame⟩ := X.leave (v := some (upV b w)) (fun q => by rw [C.rets, hret] at q; cases q) C.nolock
  refine ⟨_, _, retOut X C.exec (t := t) (i := i) (C.rets.trans hret) hn ?_ (hb C.bys hd.1) hr, hrun, hended, _, locs, rfl, ⟨N, some w, H, rfl, RR, h⟩, ⟨_, rfl⟩, hW, hsame.mono hc hs⟩
  rcases hi with ⟨h1, h2, z, rfl⟩ | ⟨h1, h2, z, rfl⟩ | ⟨h1, h2, h3⟩
  · exact Or.inl ⟨h1, h2, z, rfl⟩
  · exact Or.inr (Or.inl ⟨h1, h2, z, rfl⟩)
  · exact Or.inr (Or.inr (Or.inr (Or.inr ⟨h1, h2, (isRef_up b w).trans h3⟩)))
theorem go_ireturn {x : Int32} (hd : Dc bytes pc .ireturn 1 nx) (hret : ret = some .int) (hc : cells ≤ R.cells) (hs : slots ≤ R.slots) (h : Post (some (.int x)) H) : Go C pc L (.int x :: S) H cells slots :=
  go_ret (w' := .null) hd hret rfl (Or.inl ⟨rfl, Or.inl rfl, _, rfl⟩) hc hs h
theorem go_zreturn {x : Int32} (hd : Dc bytes pc .ireturn 1 nx) (hret : ret = some .boolean) (hz : x &&& 1 = x) (hc : cells ≤ R.cells) (hs : slots ≤ R.slots) (h : Post (some (.int x)) H) : Go C pc L (.int x :: S) H cells slots :=
  go_ret (w' := .null) hd hret (by show Value.int (x &&& 1) = .int x; rw [hz]) (Or.inl ⟨rfl, Or.inr (Or.inl rfl), _, rfl⟩) hc hs h
theorem go_breturn {x : Int32} (hd : Dc bytes pc .ireturn 1 nx) (hret : ret = some .byte) (hz : x.toInt8.toInt32 = x) (hc : cells ≤ R.cells) (hs : slots ≤ R.slots) (h : Post (some (.int x)) H) : Go C pc L (.int x :: S) H cells slots :=
  go_ret (w' := .null) hd hret (by show Value.int (x.toInt8.toInt32) = .int x; rw [hz]) (Or.inl ⟨rfl, Or.inr (Or.inr (Or.inl rfl)), _, rfl⟩) hc hs h
theorem go_lreturn {x : Int64} (hd : Dc bytes pc .lreturn 1 nx) (hret : ret = some .long) (hc : cells ≤ R.cells) (hs : slots ≤ R.slots) (h : Post (some (.long x)) H) : Go C pc L (.long x :: S) H cells slots :=
  go_ret (w' := .null) hd hret rfl (Or.inr (Or.inl ⟨rfl, rfl, _, rfl⟩)) hc hs h
theorem narrow_ref {t : FieldType} (ht : t.isReference = true) (v : Value) : narrow t v = v := by cases t <;> first | rfl | cases ht
theorem go_areturn {v : Value} {t : FieldType} (hd : Dc bytes pc .areturn 1 nx) (hret : ret = some t) (ht : t.isReference = true) (hv : v.isRef = true) (hc : cells ≤ R.cells) (hs : slots ≤ R.slots) (h : Post (some v) H) : Go C pc L (v :: S) H cells slots :=
  go_ret (w' := .null) hd hret (narrow_ref ht _) (Or.inr (Or.inr ⟨rfl, ht, hv⟩)) hc hs h
theorem go_return (hd : Dc bytes pc .return_ 1 nx) (hret : ret = none) (hc : cells ≤ R.cells) (hs : slots ≤ R.slots) (h : Post none H) : Go C pc L [] H cells slots := by
  intro T locs X N RR
  obtain ⟨fs, hr, hrun, hended, hW, hsame⟩ := X.leave (v := none) (fun _ => rfl) C.nolock
  exact ⟨_, _, X.returnOut C.exec (C.rets.trans hret) (hb C.bys hd.1) hr, hrun, hended, _, locs, rfl, ⟨N, none, H, rfl, RR, h⟩, ⟨_, rfl⟩, hW, hsame.mono hc hs⟩
def fillL : List Value → List Slot
  | [] => []
  | v :: vs => if v.category = 2 then .val v :: .second :: fillL vs else .val v :: fillL vs
def locs0 (as : List Value) (nL : Nat) : List Slot := fillL as ++ List.replicate (nL - (fillL as).length) .unset
theorem fill_foldl (as : List Value) : ∀ acc : Array Slot, (as.map (upV b)).foldl (fun acc v => if v.category = 2 then (acc.push (.val v)).push .second else acc.push (.val v)) acc = acc ++ ((fillL as).map (upS b)).toArray := by
  induction as with
  | nil => intro acc; simp [fillL]
  | cons v vs ih =>
    intro acc
    simp only [List.map_cons, List.foldl_cons, cat_up, fillL]
    by_cases q : v.category = 2
    · rw [if_pos q, if_pos q, ih]
      simp [upS, ← Array.toList_inj]
    · rw [if_neg q, if_neg q, ih]
      simp [upS, ← Array.toList_inj]
theorem entry_up (m : MethodId) (as : List Value) (nL : Nat) : entryFrame m (as.map (upV b)).toArray nL = frm b m 0 (locs0 as nL) [] := by
  have e := fill_foldl (b := b) as #[]
  have e1 : argsToLocals (as.map (upV b)).toArray nL = ((locs0 as nL).map (upS b)).toArray := by
    simp only [argsToLocals, List.foldl_toArray', List.size_toArray, List.foldl_toArray]
    rw [e]
    simp [locs0, upS, ← Array.toList_inj]
  simp [entryFrame, e1]
end Walk
theorem Met.of_go {l : Launch} {Z : State} {a0 : Array Value} {W : List Jvm.Cond} {b : Nat} {y : MethodName} {bytes : ByteArray} {nL : Nat} {ret : Option FieldType} {rm : Room} {as : List Value} {H : List GCell} {Post : Option Value → List GCell → Prop} (hw : ∀ d ∈ W, d.before a0 Z = true) (hp : plainFor y = true) {L0 : List Slot} (hL : locs0 as nL = L0)
    (body : ∀ p e s m args below meth c (C : Cx p l e rm s m args below meth c Z a0 W b y bytes nL ret Post), Go C 0 L0 [] H 0 0) : Met l Z a0 b y bytes nL ret rm as H Post := by
  intro h RR ws
  refine MetFree.of_bodySF hp hisR ?_
  intro p e s m args below meth c s₁ Bd hml0 hP hK
  obtain ⟨rfl, hZ, hh⟩ := hP
  have C : Cx p l e rm s m (as.map (upV b)).toArray below meth c Z a0 W b y bytes nL ret Post := ⟨Bd.exec, hZ, findClass_of_methodNamed Bd.named, Bd.bytes, hml0, Bd.returns, Bd.notSynchronized, (name_of_methodNamed Bd.named Bd.method).1, hw⟩
  have X0 : Stand p l e rm s m (as.map (upV b)).toArray below meth c s₁ [] 0 0 := Stand.of_body Bd
  have e0 : s₁.heap = h := by rw [← hh, Bd.state]; rfl
  have g := body p e s m _ below meth c C s₁ [] X0 (Fr.nil b) (by rw [e0]; exact RR)
  obtain ⟨s₂, o, hs, hr⟩ := g
  refine ⟨s₂, o, ?_, hr⟩
  rw [entry_up, hL]
  exact hs
section Places
variable {p : Program} {l : Launch} {e : Env} {R : Room} {s : State} {m : MethodId} {args : Array Value} {below : List Frame} {meth : Method} {c : Code} {Z : State} {a0 : Array Value} {W : List Jvm.Cond} {b : Nat} {y : MethodName} {bytes : ByteArray} {nL : Nat} {ret : Option FieldType} {Post : Option Value → List GCell → Prop} {C : Cx p l e R s m args below meth c Z a0 W b y bytes nL ret Post} {pc nx tg : Nat} {L L' : List Slot} {S S' : List Value} {H H' : List GCell} {cells slots : Nat}
theorem go_istore_1 {s0 o : Slot} {x : Int32} (hd : Dc bytes pc (.istore_n 1) 1 nx) (ho : oneS o = true) (h : Go C nx (s0 :: .val (.int x) :: L) S H cells slots) : Go C pc (s0 :: o :: L) (.int x :: S) H cells slots := go_istoreN hd rfl ho h
theorem go_iinc_1 {s0 : Slot} {x z : Int32} {i : Int} (hd : Dc bytes pc (.iinc 1 i) 3 nx) (hz : Int32.ofInt i = z) (h : Go C nx (s0 :: .val (.int (x + z)) :: L) S H cells slots) : Go C pc (s0 :: .val (.int x) :: L) S H cells slots := go_iinc hd rfl hz h
theorem go_astore_6 {s0 s1 s2 s3 s4 s5 o : Slot} {v : Value} (hd : Dc bytes pc (.astore 6) 2 nx) (ho : oneS o = true) (hv : v.isRef = true) (h : Go C nx (s0 :: s1 :: s2 :: s3 :: s4 :: s5 :: .val v :: L) S H cells slots) : Go C pc (s0 :: s1 :: s2 :: s3 :: s4 :: s5 :: o :: L) (v :: S) H cells slots := go_astore hd rfl ho hv h
theorem go_istoreX_7 {s0 s1 s2 s3 s4 s5 s6 o : Slot} {x : Int32} (hd : Dc bytes pc (.istore 7) 2 nx) (ho : oneS o = true) (h : ∀ x', x' = x → Go C nx (s0 :: s1 :: s2 :: s3 :: s4 :: s5 :: s6 :: .val (.int x') :: L) S H cells slots) : Go C pc (s0 :: s1 :: s2 :: s3 :: s4 :: s5 :: s6 :: o :: L) (.int x :: S) H cells slots := go_istore hd rfl ho (h x rfl)
theorem go_istore_8 {s0 s1 s2 s3 s4 s5 s6 s7 o : Slot} {x : Int32} (hd : Dc bytes pc (.istore 8) 2 nx) (ho : oneS o = true) (h : Go C nx (s0 :: s1 :: s2 :: s3 :: s4 :: s5 :: s6 :: s7 :: .val (.int x) :: L) S H cells slots) : Go C pc (s0 :: s1 :: s2 :: s3 :: s4 :: s5 :: s6 :: s7 :: o :: L) (.int x :: S) H cells slots := go_istore hd rfl ho h
theorem go_istoreX_9 {s0 s1 s2 s3 s4 s5 s6 s7 s8 o : Slot} {x : Int32} (hd : Dc bytes pc (.istore 9) 2 nx) (ho : oneS o = true) (h : ∀ x', x' = x → Go C nx (s0 :: s1 :: s2 :: s3 :: s4 :: s5 :: s6 :: s7 :: s8 :: .val (.int x') :: L) S H cells slots) : Go C pc (s0 :: s1 :: s2 :: s3 :: s4 :: s5 :: s6 :: s7 :: s8 :: o :: L) (.int x :: S) H cells slots := go_istore hd rfl ho (h x rfl)
theorem go_virtualV_0 {y' : MethodName} {bytes' : ByteArray} {maxL : Nat} {ret' : Option FieldType} {rm : Room} {i idx : Nat} {Cn : String} {fs : List (String × String × Value)} {P : List GCell → Prop} {ps : List FieldType} {rt : Option FieldType} (hd : Dc bytes pc (.invokevirtual idx) 3 nx) (w1 : Jvm.Cond.methodLink y.cls idx y' ∈ W) (w2 : Jvm.Cond.declares y' ∈ W) (w3 : Jvm.Cond.selects Cn y' y' ∈ W) (w4 : Jvm.Cond.instanceMethod y' ∈ W) (w5 : Jvm.Cond.code y' bytes' maxL ret' ∈ W) (w6 : Jvm.Cond.initialized y'.cls ∈ W) (hy : y'.cls ≠ "java/lang/invoke/MethodHandle" ∧ y'.cls ≠ "java/lang/invoke/VarHandle") (hdesc : parseMethodDescriptor y'.desc = some ⟨ps, rt⟩) (hlen : ps.length = 0)
    (M : Met l Z a0 b y' bytes' maxL ret' rm (.ref i :: []) H (fun v H' => v = none ∧ P H')) (hH : H[i]? = some (ob Cn fs)) (hL : L.length = nL) (wdt : Nat) (hwd : (S.map Value.category).sum = wdt) (hfr : rm.frames + 1 ≤ R.frames) (hlo : wdt + (maxL + 11) + rm.locals ≤ R.locals) (hc : cells + rm.cells ≤ R.cells) (hs : slots + rm.slots ≤ R.slots)
    (h : ∀ H', P H' → Go C nx L S H' (cells + rm.cells) (slots + rm.slots)) : Go C pc L (.ref i :: S) H cells slots :=
  go_virtual hd w1 w2 w3 w4 w5 w6 hy hdesc (as := []) (by rw [hlen]; rfl) M hH rfl hL wdt (Nat.le_of_eq hwd) hfr hlo hc hs (fun v H' q => by obtain ⟨rfl, q⟩ := q; exact h H' q)
theorem go_virtual_0 {y' : MethodName} {bytes' : ByteArray} {maxL : Nat} {ret' : Option FieldType} {rm : Room} {i idx : Nat} {Cn : String} {fs : List (String × String × Value)} {P : Value → List GCell → Prop} {ps : List FieldType} {rt : Option FieldType} (hd : Dc bytes pc (.invokevirtual idx) 3 nx) (w1 : Jvm.Cond.methodLink y.cls idx y' ∈ W) (w2 : Jvm.Cond.declares y' ∈ W) (w3 : Jvm.Cond.selects Cn y' y' ∈ W) (w4 : Jvm.Cond.instanceMethod y' ∈ W) (w5 : Jvm.Cond.code y' bytes' maxL ret' ∈ W) (w6 : Jvm.Cond.initialized y'.cls ∈ W) (hy : y'.cls ≠ "java/lang/invoke/MethodHandle" ∧ y'.cls ≠ "java/lang/invoke/VarHandle") (hdesc : parseMethodDescriptor y'.desc = some ⟨ps, rt⟩) (hlen : ps.length = 0)
    (M : Met l Z a0 b y' bytes' maxL ret' rm (.ref i :: []) H (fun v H' => ∃ w, v = some w ∧ P w H')) (hH : H[i]? = some (ob Cn fs)) (hL : L.length = nL) (wdt : Nat) (hwd : (S.map Value.category).sum = wdt) (hfr : rm.frames + 1 ≤ R.frames) (hlo : wdt + (maxL + 11) + rm.locals ≤ R.locals) (hc : cells + rm.cells ≤ R.cells) (hs : slots + rm.slots ≤ R.slots)
    (h : ∀ w H', P w H' → Go C nx L (w :: S) H' (cells + rm.cells) (slots + rm.slots)) : Go C pc L (.ref i :: S) H cells slots :=
  go_virtual hd w1 w2 w3 w4 w5 w6 hy hdesc (as := []) (by rw [hlen]; rfl) M hH rfl hL wdt (Nat.le_of_eq hwd) hfr hlo hc hs (fun v H' q => by obtain ⟨w, rfl, q⟩ := q; exact h w H' q)
theorem go_virtualV_1 {a1 : Value} {y' : MethodName} {bytes' : ByteArray} {maxL : Nat} {ret' : Option FieldType} {rm : Room} {i idx : Nat} {Cn : String} {fs : List (String × String × Value)} {P : List GCell → Prop} {ps : List FieldType} {rt : Option FieldType} (hd : Dc bytes pc (.invokevirtual idx) 3 nx) (w1 : Jvm.Cond.methodLink y.cls idx y' ∈ W) (w2 : Jvm.Cond.declares y' ∈ W) (w3 : Jvm.Cond.selects Cn y' y' ∈ W) (w4 : Jvm.Cond.instanceMethod y' ∈ W) (w5 : Jvm.Cond.code y' bytes' maxL ret' ∈ W) (w6 : Jvm.Cond.initialized y'.cls ∈ W) (hy : y'.cls ≠ "java/lang/invoke/MethodHandle" ∧ y'.cls ≠ "java/lang/invoke/VarHandle") (hdesc : parseMethodDescriptor y'.desc = some ⟨ps, rt⟩) (hlen : ps.length = 1)
    (M : Met l Z a0 b y' bytes' maxL ret' rm (.ref i :: [a1]) H (fun v H' => v = none ∧ P H')) (hH : H[i]? = some (ob Cn fs)) (hL : L.length = nL) (wdt : Nat) (hwd : (S.map Value.category).sum = wdt) (hfr : rm.frames + 1 ≤ R.frames) (hlo : wdt + (maxL + 11) + rm.locals ≤ R.locals) (hc : cells + rm.cells ≤ R.cells) (hs : slots + rm.slots ≤ R.slots)
    (h : ∀ H', P H' → Go C nx L S H' (cells + rm.cells) (slots + rm.slots)) : Go C pc L (a1 :: .ref i :: S) H cells slots :=
  go_virtual hd w1 w2 w3 w4 w5 w6 hy hdesc (as := [a1]) (by rw [hlen]; rfl) M hH rfl hL wdt (Nat.le_of_eq hwd) hfr hlo hc hs (fun v H' q => by obtain ⟨rfl, q⟩ := q; exact h H' q)
theorem go_virtual_1 {a1 : Value} {y' : MethodName} {bytes' : ByteArray} {maxL : Nat} {ret' : Option FieldType} {rm : Room} {i idx : Nat} {Cn : String} {fs : List (String × String × Value)} {P : Value → List GCell → Prop} {ps : List FieldType} {rt : Option FieldType} (hd : Dc bytes pc (.invokevirtual idx) 3 nx) (w1 : Jvm.Cond.methodLink y.cls idx y' ∈ W) (w2 : Jvm.Cond.declares y' ∈ W) (w3 : Jvm.Cond.selects Cn y' y' ∈ W) (w4 : Jvm.Cond.instanceMethod y' ∈ W) (w5 : Jvm.Cond.code y' bytes' maxL ret' ∈ W) (w6 : Jvm.Cond.initialized y'.cls ∈ W) (hy : y'.cls ≠ "java/lang/invoke/MethodHandle" ∧ y'.cls ≠ "java/lang/invoke/VarHandle") (hdesc : parseMethodDescriptor y'.desc = some ⟨ps, rt⟩) (hlen : ps.length = 1)
    (M : Met l Z a0 b y' bytes' maxL ret' rm (.ref i :: [a1]) H (fun v H' => ∃ w, v = some w ∧ P w H')) (hH : H[i]? = some (ob Cn fs)) (hL : L.length = nL) (wdt : Nat) (hwd : (S.map Value.category).sum = wdt) (hfr : rm.frames + 1 ≤ R.frames) (hlo : wdt + (maxL + 11) + rm.locals ≤ R.locals) (hc : cells + rm.cells ≤ R.cells) (hs : slots + rm.slots ≤ R.slots)
    (h : ∀ w H', P w H' → Go C nx L (w :: S) H' (cells + rm.cells) (slots + rm.slots)) : Go C pc L (a1 :: .ref i :: S) H cells slots :=
  go_virtual hd w1 w2 w3 w4 w5 w6 hy hdesc (as := [a1]) (by rw [hlen]; rfl) M hH rfl hL wdt (Nat.le_of_eq hwd) hfr hlo hc hs (fun v H' q => by obtain ⟨w, rfl, q⟩ := q; exact h w H' q)
theorem go_specialV_1 {a1 : Value} {y' : MethodName} {bytes' : ByteArray} {maxL : Nat} {rm : Room} {i idx : Nat} {P : List GCell → Prop} {ps : List FieldType} {rt : Option FieldType} (hn : y'.name = "<init>") (hd : Dc bytes pc (.invokespecial idx) 3 nx) (w1 : Jvm.Cond.methodLink y.cls idx y' ∈ W) (w4 : Jvm.Cond.instanceMethod y' ∈ W) (w5 : Jvm.Cond.code y' bytes' maxL none ∈ W) (w6 : Jvm.Cond.initialized y'.cls ∈ W) (hy : y'.cls ≠ "java/lang/invoke/MethodHandle" ∧ y'.cls ≠ "java/lang/invoke/VarHandle") (hdesc : parseMethodDescriptor y'.desc = some ⟨ps, rt⟩) (hlen : ps.length = 1)
    (M : Met l Z a0 b y' bytes' maxL none rm (.ref i :: [a1]) H (fun v H' => v = none ∧ P H')) (hL : L.length = nL) (wdt : Nat) (hwd : (S.map Value.category).sum = wdt) (hfr : rm.frames + 1 ≤ R.frames) (hlo : wdt + (maxL + 11) + rm.locals ≤ R.locals) (hc : cells + rm.cells ≤ R.cells) (hs : slots + rm.slots ≤ R.slots)
    (h : ∀ H', P H' → Go C nx L S H' (cells + rm.cells) (slots + rm.slots)) : Go C pc L (a1 :: .ref i :: S) H cells slots :=
  go_special hn hd w1 w4 w5 w6 hy hdesc (as := [a1]) (by rw [hlen]; rfl) M rfl hL wdt (Nat.le_of_eq hwd) hfr hlo hc hs (fun v H' q => by obtain ⟨rfl, q⟩ := q; exact h H' q)
end Places
end Jvm.GoKit

namespace Jvm.Pilot.@@N@@
open Jvm Jvm.ClassFile Sem Op Lib Jvm.Free Jvm.Stand Jvm.LawKit Jvm.RoadKit Bundle Jvm.GoKit Jvm.Pilot.@@N@@.Jvm.D
theorem e0_0 : Dc code 0 (.new 7) 3 3 := ⟨at_0, rfl⟩
theorem e0_3 : Dc code 3 (.dup) 1 4 := ⟨at_3, rfl⟩
theorem e0_4 : Dc code 4 (.iconst 4) 1 5 := ⟨at_4, rfl⟩
theorem e0_5 : Dc code 5 (.invokespecial 9) 3 8 := ⟨at_5, rfl⟩
theorem e0_8 : Dc code 8 (.astore 6) 2 10 := ⟨at_8, rfl⟩
theorem e0_10 : Dc code 10 (.iload_n 0) 1 11 := ⟨at_10, rfl⟩
theorem e0_11 : Dc code 11 (.bipush 7) 2 13 := ⟨at_11, rfl⟩
theorem e0_13 : Dc code 13 (.iand) 1 14 := ⟨at_13, rfl⟩
theorem e0_14 : Dc code 14 (.istore 7) 2 16 := ⟨at_14, rfl⟩
theorem e0_16 : Dc code 16 (.iload 7) 2 18 := ⟨at_16, rfl⟩
theorem e0_18 : Dc code 18 (.ifCond .le 11) 3 21 := ⟨at_18, rfl⟩
theorem e0_21 : Dc code 21 (.aload 6) 2 23 := ⟨at_21, rfl⟩
theorem e0_23 : Dc code 23 (.iload_n 1) 1 24 := ⟨at_23, rfl⟩
theorem e0_24 : Dc code 24 (.iconst 3) 1 25 := ⟨at_24, rfl⟩
theorem e0_25 : Dc code 25 (.iand) 1 26 := ⟨at_25, rfl⟩
theorem e0_26 : Dc code 26 (.invokevirtual 12) 3 29 := ⟨at_26, rfl⟩
theorem e0_29 : Dc code 29 (.iload 7) 2 31 := ⟨at_29, rfl⟩
theorem e0_31 : Dc code 31 (.iconst 1) 1 32 := ⟨at_31, rfl⟩
theorem e0_32 : Dc code 32 (.if_icmp .le 11) 3 35 := ⟨at_32, rfl⟩
theorem e0_35 : Dc code 35 (.aload 6) 2 37 := ⟨at_35, rfl⟩
theorem e0_37 : Dc code 37 (.iload_n 2) 1 38 := ⟨at_37, rfl⟩
theorem e0_38 : Dc code 38 (.iconst 3) 1 39 := ⟨at_38, rfl⟩
theorem e0_39 : Dc code 39 (.iand) 1 40 := ⟨at_39, rfl⟩
theorem e0_40 : Dc code 40 (.invokevirtual 12) 3 43 := ⟨at_40, rfl⟩
theorem e0_43 : Dc code 43 (.iload 7) 2 45 := ⟨at_43, rfl⟩
theorem e0_45 : Dc code 45 (.iconst 2) 1 46 := ⟨at_45, rfl⟩
theorem e0_46 : Dc code 46 (.if_icmp .le 11) 3 49 := ⟨at_46, rfl⟩
theorem e0_49 : Dc code 49 (.aload 6) 2 51 := ⟨at_49, rfl⟩
theorem e0_51 : Dc code 51 (.iload_n 3) 1 52 := ⟨at_51, rfl⟩
theorem e0_52 : Dc code 52 (.iconst 3) 1 53 := ⟨at_52, rfl⟩
theorem e0_53 : Dc code 53 (.iand) 1 54 := ⟨at_53, rfl⟩
theorem e0_54 : Dc code 54 (.invokevirtual 12) 3 57 := ⟨at_54, rfl⟩
theorem e0_57 : Dc code 57 (.iload 7) 2 59 := ⟨at_57, rfl⟩
theorem e0_59 : Dc code 59 (.iconst 3) 1 60 := ⟨at_59, rfl⟩
theorem e0_60 : Dc code 60 (.if_icmp .le 12) 3 63 := ⟨at_60, rfl⟩
theorem e0_63 : Dc code 63 (.aload 6) 2 65 := ⟨at_63, rfl⟩
theorem e0_65 : Dc code 65 (.iload 4) 2 67 := ⟨at_65, rfl⟩
theorem e0_67 : Dc code 67 (.iconst 3) 1 68 := ⟨at_67, rfl⟩
theorem e0_68 : Dc code 68 (.iand) 1 69 := ⟨at_68, rfl⟩
theorem e0_69 : Dc code 69 (.invokevirtual 12) 3 72 := ⟨at_69, rfl⟩
theorem e0_72 : Dc code 72 (.aload 6) 2 74 := ⟨at_72, rfl⟩
theorem e0_74 : Dc code 74 (.invokevirtual 15) 3 77 := ⟨at_74, rfl⟩
theorem e0_77 : Dc code 77 (.aload 6) 2 79 := ⟨at_77, rfl⟩
theorem e0_79 : Dc code 79 (.invokevirtual 18) 3 82 := ⟨at_79, rfl⟩
theorem e0_82 : Dc code 82 (.ifCond .ne 43) 3 85 := ⟨at_82, rfl⟩
theorem e0_85 : Dc code 85 (.aload 6) 2 87 := ⟨at_85, rfl⟩
theorem e0_87 : Dc code 87 (.iconst 0) 1 88 := ⟨at_87, rfl⟩
theorem e0_88 : Dc code 88 (.invokevirtual 22) 3 91 := ⟨at_88, rfl⟩
theorem e0_91 : Dc code 91 (.ifCond .ne 34) 3 94 := ⟨at_91, rfl⟩
theorem e0_94 : Dc code 94 (.aload 6) 2 96 := ⟨at_94, rfl⟩
theorem e0_96 : Dc code 96 (.iconst 1) 1 97 := ⟨at_96, rfl⟩
theorem e0_97 : Dc code 97 (.invokevirtual 22) 3 100 := ⟨at_97, rfl⟩
theorem e0_100 : Dc code 100 (.ifCond .ne 25) 3 103 := ⟨at_100, rfl⟩
theorem e0_103 : Dc code 103 (.aload 6) 2 105 := ⟨at_103, rfl⟩
theorem e0_105 : Dc code 105 (.iconst 2) 1 106 := ⟨at_105, rfl⟩
theorem e0_106 : Dc code 106 (.invokevirtual 22) 3 109 := ⟨at_106, rfl⟩
theorem e0_109 : Dc code 109 (.ifCond .ne 16) 3 112 := ⟨at_109, rfl⟩
theorem e0_112 : Dc code 112 (.aload 6) 2 114 := ⟨at_112, rfl⟩
theorem e0_114 : Dc code 114 (.iconst 3) 1 115 := ⟨at_114, rfl⟩
theorem e0_115 : Dc code 115 (.invokevirtual 22) 3 118 := ⟨at_115, rfl⟩
theorem e0_118 : Dc code 118 (.ifCond .ne 7) 3 121 := ⟨at_118, rfl⟩
theorem e0_121 : Dc code 121 (.iconst 1) 1 122 := ⟨at_121, rfl⟩
theorem e0_122 : Dc code 122 (.goto 4) 3 125 := ⟨at_122, rfl⟩
theorem e0_126 : Dc code 126 (.istore 8) 2 128 := ⟨at_126, rfl⟩
theorem e0_128 : Dc code 128 (.iload 5) 2 130 := ⟨at_128, rfl⟩
theorem e0_130 : Dc code 130 (.iconst 3) 1 131 := ⟨at_130, rfl⟩
theorem e0_131 : Dc code 131 (.iand) 1 132 := ⟨at_131, rfl⟩
theorem e0_132 : Dc code 132 (.istore 9) 2 134 := ⟨at_132, rfl⟩
theorem e0_134 : Dc code 134 (.aload 6) 2 136 := ⟨at_134, rfl⟩
theorem e0_136 : Dc code 136 (.iload 9) 2 138 := ⟨at_136, rfl⟩
theorem e0_138 : Dc code 138 (.invokevirtual 12) 3 141 := ⟨at_138, rfl⟩
theorem e0_141 : Dc code 141 (.iload 8) 2 143 := ⟨at_141, rfl⟩
theorem e0_143 : Dc code 143 (.ifCond .eq 37) 3 146 := ⟨at_143, rfl⟩
theorem e0_146 : Dc code 146 (.aload 6) 2 148 := ⟨at_146, rfl⟩
theorem e0_148 : Dc code 148 (.invokevirtual 18) 3 151 := ⟨at_148, rfl⟩
theorem e0_151 : Dc code 151 (.iconst 1) 1 152 := ⟨at_151, rfl⟩
theorem e0_152 : Dc code 152 (.if_icmp .ne 28) 3 155 := ⟨at_152, rfl⟩
theorem e0_155 : Dc code 155 (.aload 6) 2 157 := ⟨at_155, rfl⟩
theorem e0_157 : Dc code 157 (.iconst 0) 1 158 := ⟨at_157, rfl⟩
theorem e0_158 : Dc code 158 (.invokevirtual 26) 3 161 := ⟨at_158, rfl⟩
theorem e0_161 : Dc code 161 (.iload 9) 2 163 := ⟨at_161, rfl⟩
theorem e0_163 : Dc code 163 (.if_icmp .ne 17) 3 166 := ⟨at_163, rfl⟩
theorem e0_166 : Dc code 166 (.aload 6) 2 168 := ⟨at_166, rfl⟩
theorem e0_168 : Dc code 168 (.iload 9) 2 170 := ⟨at_168, rfl⟩
theorem e0_170 : Dc code 170 (.invokevirtual 22) 3 173 := ⟨at_170, rfl⟩
theorem e0_173 : Dc code 173 (.ifCond .eq 7) 3 176 := ⟨at_173, rfl⟩
theorem e0_176 : Dc code 176 (.iconst 1) 1 177 := ⟨at_176, rfl⟩
theorem e0_177 : Dc code 177 (.goto 4) 3 180 := ⟨at_177, rfl⟩
theorem e0_181 : Dc code 181 (.ireturn) 1 182 := ⟨at_181, rfl⟩
theorem e1_0 : Dc prog_92_method_1_code 0 (.aload_n 0) 1 1 := ⟨by decide +kernel, rfl⟩
theorem e1_1 : Dc prog_92_method_1_code 1 (.invokespecial 1) 3 4 := ⟨by decide +kernel, rfl⟩
theorem e1_4 : Dc prog_92_method_1_code 4 (.aload_n 0) 1 5 := ⟨by decide +kernel, rfl⟩
theorem e1_5 : Dc prog_92_method_1_code 5 (.iload_n 1) 1 6 := ⟨by decide +kernel, rfl⟩
theorem e1_6 : Dc prog_92_method_1_code 6 (.newarray .boolean) 2 8 := ⟨by decide +kernel, rfl⟩
theorem e1_8 : Dc prog_92_method_1_code 8 (.putfield 7) 3 11 := ⟨by decide +kernel, rfl⟩
theorem e1_11 : Dc prog_92_method_1_code 11 (.aload_n 0) 1 12 := ⟨by decide +kernel, rfl⟩
theorem e1_12 : Dc prog_92_method_1_code 12 (.iload_n 1) 1 13 := ⟨by decide +kernel, rfl⟩
theorem e1_13 : Dc prog_92_method_1_code 13 (.newarray .int) 2 15 := ⟨by decide +kernel, rfl⟩
theorem e1_15 : Dc prog_92_method_1_code 15 (.putfield 13) 3 18 := ⟨by decide +kernel, rfl⟩
theorem e1_18 : Dc prog_92_method_1_code 18 (.return_) 1 19 := ⟨by decide +kernel, rfl⟩
theorem e3_0 : Dc prog_92_method_6_code 0 (.iconst 0) 1 1 := ⟨by decide +kernel, rfl⟩
theorem e3_1 : Dc prog_92_method_6_code 1 (.istore_n 1) 1 2 := ⟨by decide +kernel, rfl⟩
theorem e3_2 : Dc prog_92_method_6_code 2 (.iload_n 1) 1 3 := ⟨by decide +kernel, rfl⟩
theorem e3_3 : Dc prog_92_method_6_code 3 (.aload_n 0) 1 4 := ⟨by decide +kernel, rfl⟩
theorem e3_4 : Dc prog_92_method_6_code 4 (.getfield 17) 3 7 := ⟨by decide +kernel, rfl⟩
theorem e3_7 : Dc prog_92_method_6_code 7 (.if_icmp .ge 21) 3 10 := ⟨by decide +kernel, rfl⟩
theorem e3_10 : Dc prog_92_method_6_code 10 (.aload_n 0) 1 11 := ⟨by decide +kernel, rfl⟩
theorem e3_11 : Dc prog_92_method_6_code 11 (.getfield 7) 3 14 := ⟨by decide +kernel, rfl⟩
theorem e3_14 : Dc prog_92_method_6_code 14 (.aload_n 0) 1 15 := ⟨by decide +kernel, rfl⟩
theorem e3_15 : Dc prog_92_method_6_code 15 (.getfield 13) 3 18 := ⟨by decide +kernel, rfl⟩
theorem e3_18 : Dc prog_92_method_6_code 18 (.iload_n 1) 1 19 := ⟨by decide +kernel, rfl⟩
theorem e3_19 : Dc prog_92_method_6_code 19 (.iaload) 1 20 := ⟨by decide +kernel, rfl⟩
theorem e3_20 : Dc prog_92_method_6_code 20 (.iconst 0) 1 21 := ⟨by decide +kernel, rfl⟩
theorem e3_21 : Dc prog_92_method_6_code 21 (.bastore) 1 22 := ⟨by decide +kernel, rfl⟩
theorem e3_22 : Dc prog_92_method_6_code 22 (.iinc 1 1) 3 25 := ⟨by decide +kernel, rfl⟩
theorem e3_25 : Dc prog_92_method_6_code 25 (.goto (-23)) 3 28 := ⟨by decide +kernel, rfl⟩
theorem e3_28 : Dc prog_92_method_6_code 28 (.aload_n 0) 1 29 := ⟨by decide +kernel, rfl⟩
theorem e3_29 : Dc prog_92_method_6_code 29 (.iconst 0) 1 30 := ⟨by decide +kernel, rfl⟩
theorem e3_30 : Dc prog_92_method_6_code 30 (.putfield 17) 3 33 := ⟨by decide +kernel, rfl⟩
theorem e3_33 : Dc prog_92_method_6_code 33 (.return_) 1 34 := ⟨by decide +kernel, rfl⟩
theorem e4_0 : Dc prog_92_method_4_code 0 (.aload_n 0) 1 1 := ⟨by decide +kernel, rfl⟩
theorem e4_1 : Dc prog_92_method_4_code 1 (.getfield 17) 3 4 := ⟨by decide +kernel, rfl⟩
theorem e4_4 : Dc prog_92_method_4_code 4 (.ireturn) 1 5 := ⟨by decide +kernel, rfl⟩
theorem e5_0 : Dc prog_92_method_3_code 0 (.aload_n 0) 1 1 := ⟨by decide +kernel, rfl⟩
theorem e5_1 : Dc prog_92_method_3_code 1 (.getfield 7) 3 4 := ⟨by decide +kernel, rfl⟩
theorem e5_4 : Dc prog_92_method_3_code 4 (.iload_n 1) 1 5 := ⟨by decide +kernel, rfl⟩
theorem e5_5 : Dc prog_92_method_3_code 5 (.baload) 1 6 := ⟨by decide +kernel, rfl⟩
theorem e5_6 : Dc prog_92_method_3_code 6 (.ireturn) 1 7 := ⟨by decide +kernel, rfl⟩
theorem e6_0 : Dc prog_92_method_2_code 0 (.aload_n 0) 1 1 := ⟨by decide +kernel, rfl⟩
theorem e6_1 : Dc prog_92_method_2_code 1 (.getfield 7) 3 4 := ⟨by decide +kernel, rfl⟩
theorem e6_4 : Dc prog_92_method_2_code 4 (.iload_n 1) 1 5 := ⟨by decide +kernel, rfl⟩
theorem e6_5 : Dc prog_92_method_2_code 5 (.baload) 1 6 := ⟨by decide +kernel, rfl⟩
theorem e6_6 : Dc prog_92_method_2_code 6 (.ifCond .ne 27) 3 9 := ⟨by decide +kernel, rfl⟩
theorem e6_9 : Dc prog_92_method_2_code 9 (.aload_n 0) 1 10 := ⟨by decide +kernel, rfl⟩
theorem e6_10 : Dc prog_92_method_2_code 10 (.getfield 7) 3 13 := ⟨by decide +kernel, rfl⟩
theorem e6_13 : Dc prog_92_method_2_code 13 (.iload_n 1) 1 14 := ⟨by decide +kernel, rfl⟩
theorem e6_14 : Dc prog_92_method_2_code 14 (.iconst 1) 1 15 := ⟨by decide +kernel, rfl⟩
theorem e6_15 : Dc prog_92_method_2_code 15 (.bastore) 1 16 := ⟨by decide +kernel, rfl⟩
theorem e6_16 : Dc prog_92_method_2_code 16 (.aload_n 0) 1 17 := ⟨by decide +kernel, rfl⟩
theorem e6_17 : Dc prog_92_method_2_code 17 (.getfield 13) 3 20 := ⟨by decide +kernel, rfl⟩
theorem e6_20 : Dc prog_92_method_2_code 20 (.aload_n 0) 1 21 := ⟨by decide +kernel, rfl⟩
theorem e6_21 : Dc prog_92_method_2_code 21 (.dup) 1 22 := ⟨by decide +kernel, rfl⟩
theorem e6_22 : Dc prog_92_method_2_code 22 (.getfield 17) 3 25 := ⟨by decide +kernel, rfl⟩
theorem e6_25 : Dc prog_92_method_2_code 25 (.dup_x1) 1 26 := ⟨by decide +kernel, rfl⟩
theorem e6_26 : Dc prog_92_method_2_code 26 (.iconst 1) 1 27 := ⟨by decide +kernel, rfl⟩
theorem e6_27 : Dc prog_92_method_2_code 27 (.iadd) 1 28 := ⟨by decide +kernel, rfl⟩
theorem e6_28 : Dc prog_92_method_2_code 28 (.putfield 17) 3 31 := ⟨by decide +kernel, rfl⟩
theorem e6_31 : Dc prog_92_method_2_code 31 (.iload_n 1) 1 32 := ⟨by decide +kernel, rfl⟩
theorem e6_32 : Dc prog_92_method_2_code 32 (.iastore) 1 33 := ⟨by decide +kernel, rfl⟩
theorem e6_33 : Dc prog_92_method_2_code 33 (.return_) 1 34 := ⟨by decide +kernel, rfl⟩
theorem e7_0 : Dc prog_92_method_5_code 0 (.aload_n 0) 1 1 := ⟨by decide +kernel, rfl⟩
theorem e7_1 : Dc prog_92_method_5_code 1 (.getfield 13) 3 4 := ⟨by decide +kernel, rfl⟩
theorem e7_4 : Dc prog_92_method_5_code 4 (.iload_n 1) 1 5 := ⟨by decide +kernel, rfl⟩
theorem e7_5 : Dc prog_92_method_5_code 5 (.iaload) 1 6 := ⟨by decide +kernel, rfl⟩
theorem e7_6 : Dc prog_92_method_5_code 6 (.ireturn) 1 7 := ⟨by decide +kernel, rfl⟩
theorem pf_0 : parseFieldDescriptor "[Z" = some (.array .boolean) := by decide +kernel
theorem pf_1 : parseFieldDescriptor "[I" = some (.array .int) := by decide +kernel
theorem pn_2 : plainName "com/example/tidewheel/tidewheel/engine/strategy/Marks" = true := by first | (simp [plainName, overriddenIn]; done) | decide +kernel
theorem pf_3 : parseFieldDescriptor "I" = some .int := by decide +kernel
theorem hy_4 : "com/example/tidewheel/tidewheel/engine/strategy/Marks" ≠ "java/lang/invoke/MethodHandle" ∧ "com/example/tidewheel/tidewheel/engine/strategy/Marks" ≠ "java/lang/invoke/VarHandle" := by decide
theorem pd_5 : parseMethodDescriptor "()V" = some ⟨[], none⟩ := by decide +kernel
theorem pd_6 : parseMethodDescriptor "()I" = some ⟨[], some .int⟩ := by decide +kernel
theorem pd_7 : parseMethodDescriptor "(I)Z" = some ⟨[.int], some .boolean⟩ := by decide +kernel
theorem pd_8 : parseMethodDescriptor "(I)V" = some ⟨[.int], none⟩ := by decide +kernel
theorem pd_9 : parseMethodDescriptor "(I)I" = some ⟨[.int], some .int⟩ := by decide +kernel
theorem lay_10 {Z : State} {a0 : Array Value} {b : Nat} (hw : ∀ d ∈ tables_1, d.before a0 Z = true) : Laids Z a0 b "com/example/tidewheel/tidewheel/engine/strategy/Marks" [("held", "[Z", .null), ("members", "[I", .null), ("size", "I", .int 0)] := ⟨⟨Or.inr (hw _ (wd 11 rfl)), _, pf_0, rfl⟩, ⟨⟨Or.inr (hw _ (wd 14 rfl)), _, pf_1, rfl⟩, ⟨⟨Or.inl (hw _ (wd 21 rfl)), _, pf_3, rfl⟩, trivial⟩⟩⟩
theorem nd_11 : (["held", "members", "size"] : List String).Nodup := by decide
theorem pn_12 : plainName "com/example/tidewheel/tidewheel/engine/strategy/MarksClearPinLaw" = true := by first | (simp [plainName, overriddenIn]; done) | decide +kernel
abbrev Mo (d a : Value) (s : Int32) : GCell := ob "com/example/tidewheel/tidewheel/engine/strategy/Marks" [("held", "[Z", d), ("members", "[I", a), ("size", "I", .int s)]
def own_held (bd : Nat) (w : List Int32) : List Value := (List.range bd).map fun j => .int (if Int32.ofNat j ∈ w then 1 else 0)
def own_add (w : List Int32) (x : Int32) : List Int32 := if x ∈ w then w else w ++ [x]
def Mk (H : List GCell) (q d a bd : Nat) (w : List Int32) : Prop := ∃ (s : Int32) (ms : List Value), H[q]? = some (Mo (.ref d) (.ref a) s) ∧ s.toInt = (w.length : Int) ∧ H[d]? = some (ar .boolean (own_held bd w)) ∧ H[a]? = some (ar .int ms) ∧ ms.length = bd ∧ (∀ (i : Nat) (y : Int32), w[i]? = some y → ms[i]? = some (.int y)) ∧ ∀ y ∈ w, 0 ≤ y.toInt ∧ y.toInt < (bd : Int)
theorem own_of {x : Int32} {k : Nat} (h : x.toInt = (k : Int)) : x = Int32.ofNat k := by
  apply Int32.toInt_inj.mp
  have := Int32.toInt_lt x
  rw [h, Int32.toInt_ofNat_of_lt (by omega)]
theorem own_ofne {j k : Nat} (hj : j < 2147483648) (hk : k < 2147483648) (h : Int32.ofNat j = Int32.ofNat k) : j = k := by
  have := congrArg Int32.toInt h
  rw [Int32.toInt_ofNat_of_lt (by omega), Int32.toInt_ofNat_of_lt (by omega)] at this
  omega
theorem own_held_at {bd : Nat} {w : List Int32} {x : Int32} {k : Nat} (hx : x.toInt = (k : Int)) (hk : k < bd) : (own_held bd w)[k]? = some (.int (if x ∈ w then 1 else 0)) := by
  simp [own_held, hk, own_of hx]
theorem own_held_len (bd : Nat) (w : List Int32) : (own_held bd w).length = bd := by simp [own_held]
theorem own_held_set {bd : Nat} {w : List Int32} {x : Int32} {k : Nat} (hx : x.toInt = (k : Int)) (hk : k < bd) (hb : bd ≤ 2147483647) : (own_held bd w).set k (.int (1 &&& 1)) = own_held bd (w ++ [x]) := by
  apply List.ext_getElem?
  intro j
  rw [List.getElem?_set, own_held_len]
  by_cases q : k = j
  · subst q
    rw [if_pos rfl, if_pos hk, own_held_at hx hk]
    simp
  · rw [if_neg q]
    by_cases r : j < bd
    · have ne : Int32.ofNat j ≠ x := fun e => q (own_ofne (by omega) (by omega) ((own_of hx).symm.trans e.symm))
      simp [own_held, r, ne]
    · simp [own_held, r]
theorem own_held_nil (bd : Nat) : own_held bd [] = List.replicate bd (.int 0) := by
  apply List.ext_getElem?
  intro j
  by_cases r : j < bd <;> simp [own_held, r]
theorem own_succ {s : Int32} {n : Nat} (h : s.toInt = (n : Int)) (hn : n < 2147483647) : (s + 1).toInt = ((n + 1 : Nat) : Int) := by
  have e := c_iadd s 1
  have k1 : (1 : Int32).toInt = 1 := rfl
  have l1 := Int32.le_toInt (s + 1)
  have l2 := Int32.toInt_lt (s + 1)
  rw [k1] at e
  omega
theorem own_bit1 (p : Prop) [Decidable p] : ((if p then 1 else 0 : Int32) &&& 1) = if p then 1 else 0 := by split <;> rfl
theorem own_in {p : Prop} [Decidable p] (h : ¬ (if p then 1 else 0 : Int32) = 0) : p := by
  by_cases z : p
  · exact z
  · rw [if_neg z] at h; exact absurd rfl h
theorem own_out {p : Prop} [Decidable p] (h : (if p then 1 else 0 : Int32) = 0) : ¬ p := fun z => by rw [if_pos z] at h; exact absurd h (by decide)
theorem own_aa {H : List GCell} {d a : Nat} {vs us : List Value} (h1 : H[d]? = some (ar .boolean vs)) (h2 : H[a]? = some (ar .int us)) : d ≠ a := fun e => by subst e; rw [h1] at h2; cases h2
theorem Mk.ob {H : List GCell} {q d a bd : Nat} {w : List Int32} (h : Mk H q d a bd w) : ∃ s, H[q]? = some (Mo (.ref d) (.ref a) s) := by obtain ⟨s, _, h, _⟩ := h; exact ⟨s, h⟩
theorem own_new {H : List GCell} {q d a bd : Nat} {w : List Int32} {x : Int32} {s : Int32} {ms : List Value} {k : Nat} (hx : x.toInt = (k : Int)) (hk : k < bd) (hb : bd ≤ 2147483647) (hq : H[q]? = some (Mo (.ref d) (.ref a) s)) (hs : s.toInt = (w.length : Int)) (hd : H[d]? = some (ar .boolean (own_held bd w))) (ha : H[a]? = some (ar .int ms)) (hm : ms.length = bd) (hy : ∀ (i : Nat) (y : Int32), w[i]? = some y → ms[i]? = some (.int y)) (hr : ∀ y ∈ w, 0 ≤ y.toInt ∧ y.toInt < (bd : Int)) (hl : w.length < bd) :
    Mk (((H.set d (ar .boolean ((own_held bd w).set k (.int (1 &&& 1))))).set q (Mo (.ref d) (.ref a) (s + 1))).set a (ar .int (ms.set w.length (.int x)))) q d a bd (w ++ [x]) := by
  have n1 := ne_oa hq hd
  have n2 := ne_oa hq ha
  have n3 := own_aa hd ha
  refine ⟨s + 1, ms.set w.length (.int x), get_ne (get_eq (get_ne hq (Ne.symm n1))) (Ne.symm n2), ?_, ?_, get_eq (get_ne (get_ne ha n3) n2), by simp [hm], fun i y h => ?_, fun y h => ?_⟩
  · rw [own_succ hs (by omega)]; simp
  · rw [← own_held_set hx hk hb]
    exact get_ne (get_ne (get_eq hd) n1) (Ne.symm n3)
  · rw [List.getElem?_append] at h
    rw [List.getElem?_set]
    split at h
    · rename_i h1
      rw [if_neg (by omega)]; exact hy i y h
    · rename_i h1
      by_cases e : i = w.length
      · subst e; simp at h; subst h; simp [hm, hl]
      · rw [List.getElem?_eq_none (by simp; omega)] at h; cases h
  · rcases List.mem_append.mp h with h | h
    · exact hr y h
    · rw [List.mem_singleton.mp h, hx]; omega
theorem own_fresh {H : List GCell} {q bd : Nat} {o : GCell} (hq : H[q]? = some o) : Mk (((((H ++ [ar .boolean (List.replicate bd (.int 0))]).set q (Mo (.ref H.length) .null 0)) ++ [ar .int (List.replicate bd (.int 0))])).set q (Mo (.ref H.length) (.ref ((H ++ [ar .boolean (List.replicate bd (.int 0))]).set q (Mo (.ref H.length) .null 0)).length) 0)) q H.length (H.length + 1) bd [] := by
  have hlt := (List.getElem?_eq_some_iff.mp hq).1
  have e : ((H ++ [ar .boolean (List.replicate bd (.int 0))]).set q (Mo (.ref H.length) .null 0)).length = H.length + 1 := by simp
  rw [e]
  refine ⟨0, List.replicate bd (.int 0), get_eq (get_app (get_eq (get_app hq))), rfl, ?_, ?_, by simp, fun i y h => by simp at h, fun y h => by simp at h⟩
  · rw [own_held_nil]
    exact get_ne (get_app (get_ne get_last (by omega))) (by omega)
  · refine get_ne ?_ (by omega)
    have := get_last (H := (H ++ [ar .boolean (List.replicate bd (.int 0))]).set q (Mo (.ref H.length) .null 0)) (m := ar .int (List.replicate bd (.int 0)))
    rw [e] at this
    exact this
theorem own_held_congr {bd : Nat} {w1 w2 : List Int32} (h : ∀ z, z ∈ w1 ↔ z ∈ w2) : own_held bd w1 = own_held bd w2 := by
  unfold own_held
  apply List.map_congr_left
  intro j _
  simp only [h]
theorem own_held_clr {bd : Nat} {w : List Int32} {x : Int32} {k : Nat} (hx : x.toInt = (k : Int)) (hk : k < bd) (hb : bd ≤ 2147483647) : (own_held bd w).set k (.int (0 &&& 1)) = own_held bd (w.filter (fun z => z ≠ x)) := by
  apply List.ext_getElem?
  intro j
  rw [List.getElem?_set, own_held_len]
  by_cases q : k = j
  · subst q
    rw [if_pos rfl, if_pos hk, own_held_at hx hk]
    simp
  · rw [if_neg q]
    by_cases r : j < bd
    · have ne : Int32.ofNat j ≠ x := fun e => q (own_ofne (by omega) (by omega) ((own_of hx).symm.trans e.symm))
      simp [own_held, r, ne]
    · simp [own_held, r]
theorem own_next {bd : Nat} {w : List Int32} {i : Nat} {y : Int32} (h : w[i]? = some y) : own_held bd ((w.filter (fun z => z ∉ w.take i)).filter (fun z => z ≠ y)) = own_held bd (w.filter (fun z => z ∉ w.take (i + 1))) := by
  apply own_held_congr
  intro z
  have hi := (List.getElem?_eq_some_iff.mp h).1
  have e : w.take (i + 1) = w.take i ++ [y] := by rw [List.take_succ, h]; rfl
  simp only [List.mem_filter, e, List.mem_append, List.mem_singleton, decide_eq_true_eq, decide_not, Bool.not_eq_true', decide_eq_false_iff_not]
  constructor
  · rintro ⟨⟨h1, h2⟩, h3⟩
    exact ⟨h1, fun h => h.elim h2 h3⟩
  · rintro ⟨h1, h2⟩
    exact ⟨⟨h1, fun h => h2 (Or.inl h)⟩, fun h => h2 (Or.inr h)⟩
theorem own_done {bd : Nat} {w : List Int32} : own_held bd (w.filter (fun z => z ∉ w.take w.length)) = own_held bd [] := by
  apply own_held_congr
  intro z
  simp
theorem own_add_len (w : List Int32) (x : Int32) : (own_add w x).length ≤ w.length + 1 := by
  unfold own_add
  split <;> simp
theorem own_and3 (x : Int32) : ∃ k : Nat, (x &&& 3).toInt = (k : Int) ∧ k < 4 := by
  have h := c_and x 3 (by decide)
  have k3 : (3 : Int32).toInt = 3 := rfl
  exact ⟨(x &&& 3).toInt.toNat, by omega, by omega⟩

set_option maxRecDepth 65536 in
set_option maxHeartbeats 4000000 in
theorem c_init {l : Launch} {Z : State} {a0 : Array Value} {b : Nat} (hw : ∀ d ∈ tables_1, d.before a0 Z = true) {H : List GCell} {q bd : Nat} {n : Int32} (hq : H[q]? = some (Mo .null .null 0)) (hn : n.toInt = (bd : Int)) (hk : bd ≤ 8) :
    Met l Z a0 b (⟨"com/example/tidewheel/tidewheel/engine/strategy/Marks", "<init>", "(I)V"⟩ : MethodName) prog_92_method_1_code 2 none ({ frames := 1, cells := 2, slots := 16, locals := 12 } : Room) [.ref q, .int n] H (fun v H' => v = none ∧ Mk H' q H.length (H.length + 1) bd []) := by
  refine Met.of_go hw (plainFor_of_name pn_2) (L0 := [.val (.ref q), .val (.int n)]) rfl ?_
  intro p e s m args below meth c C
  refine go_aloadN e1_0 rfl rfl ?_
  refine go_initO (C := C) e1_1 (wd 6 rfl) (wd 7 rfl) (wd (W := tables_1) 8 rfl) rfl (by decide) 0 (by decide) (by decide) ?_
  refine go_aloadN e1_4 rfl rfl ?_
  refine go_iloadN e1_5 rfl ?_
  refine go_newarray e1_6 (wd 9 rfl) (k := bd) hn (vs := List.replicate bd (.int 0)) rfl (cap := 8) hk (by decide) (by decide) (by decide) ?_
  refine go_putfield e1_8 (wd 10 rfl) (Or.inr ⟨(wd 11 rfl), rfl, rfl⟩) (wd 1 rfl) pf_0 (get_app hq) (j := 0) rfl rfl rfl ?_
  refine go_aloadN e1_11 rfl rfl ?_
  refine go_iloadN e1_12 rfl ?_
  refine go_newarray e1_13 (wd 12 rfl) (k := bd) hn (vs := List.replicate bd (.int 0)) rfl (cap := 8) hk (by decide) (by decide) (by decide) ?_
  refine go_putfield e1_15 (wd 13 rfl) (Or.inr ⟨(wd 14 rfl), rfl, rfl⟩) (wd 1 rfl) pf_1 (get_app (get_eq (get_app hq))) (j := 1) rfl rfl rfl ?_
  refine go_return e1_18 rfl (by decide) (by decide) ?_
  exact ⟨rfl, own_fresh hq⟩
set_option maxRecDepth 65536 in
set_option maxHeartbeats 4000000 in
theorem c_add {l : Launch} {Z : State} {a0 : Array Value} {b : Nat} (hw : ∀ d ∈ tables_1, d.before a0 Z = true) {H : List GCell} {q d a bd : Nat} {w : List Int32} {x : Int32} {k : Nat} (hM : Mk H q d a bd w) (hx : x.toInt = (k : Int)) (hk : k < bd) (hb : bd ≤ 2147483647) (hl : x ∉ w → w.length < bd) :
    Met l Z a0 b (⟨"com/example/tidewheel/tidewheel/engine/strategy/Marks", "add", "(I)V"⟩ : MethodName) prog_92_method_2_code 2 none ({ frames := 0, cells := 0, slots := 0, locals := 0 } : Room) [.ref q, .int x] H (fun v H' => v = none ∧ Mk H' q d a bd (own_add w x)) := by
  obtain ⟨s0, ms, hq, hs, hd, ha, hm, hy, hr⟩ := hM
  refine Met.of_go hw (plainFor_of_name pn_2) (L0 := [.val (.ref q), .val (.int x)]) rfl ?_
  intro p e s m args below meth c C
  refine go_aloadN e6_0 rfl rfl ?_
  refine go_getfield e6_1 (wd 10 rfl) hq (j := 0) rfl ?_
  refine go_iloadN e6_4 rfl ?_
  refine go_zaload e6_5 hd (k := k) hx (own_held_at hx hk) ?_
  refine go_ifne e6_6 (tg := 33) (by decide) ?_ ?_
  · intro c6
    have hin : x ∈ w := own_in c6
    refine go_return e6_33 rfl (by decide) (by decide) ?_
    exact ⟨rfl, by rw [own_add, if_pos hin]; exact ⟨s0, ms, hq, hs, hd, ha, hm, hy, hr⟩⟩
  · intro c6
    have hin : x ∉ w := own_out c6
    refine go_aloadN e6_9 rfl rfl ?_
    refine go_getfield e6_10 (wd 10 rfl) hq (j := 0) rfl ?_
    refine go_iloadN e6_13 rfl ?_
    refine go_iconst e6_14 (x := 1) rfl ?_
    refine go_zastore e6_15 hd (k := k) hx (by rw [own_held_len]; exact hk) ?_
    refine go_aloadN e6_16 rfl rfl ?_
    refine go_getfield e6_17 (wd 13 rfl) (get_ne hq (Ne.symm (ne_oa hq hd))) (j := 1) rfl ?_
    refine go_aloadN e6_20 rfl rfl ?_
    refine go_dup e6_21 rfl ?_
    refine go_getfield e6_22 (wd 20 rfl) (get_ne hq (Ne.symm (ne_oa hq hd))) (j := 2) rfl ?_
    refine go_dupX1 e6_25 rfl rfl ?_
    refine go_iconst e6_26 (x := 1) rfl ?_
    refine go_iadd e6_27 ?_
    refine go_putfield e6_28 (wd 20 rfl) (Or.inl (wd 21 rfl)) (wd 1 rfl) pf_3 (get_ne hq (Ne.symm (ne_oa hq hd))) (j := 2) rfl rfl rfl ?_
    refine go_iloadN e6_31 rfl ?_
    refine go_iastore e6_32 (get_ne (get_ne ha (own_aa hd ha)) (ne_oa hq ha)) (k := w.length) hs (by rw [hm]; exact hl hin) ?_
    refine go_return e6_33 rfl (by decide) (by decide) ?_
    exact ⟨rfl, by rw [own_add, if_neg hin]; exact own_new hx hk hb hq hs hd ha hm hy hr (hl hin)⟩
set_option maxRecDepth 65536 in
set_option maxHeartbeats 4000000 in
theorem c_size {l : Launch} {Z : State} {a0 : Array Value} {b : Nat} (hw : ∀ d ∈ tables_1, d.before a0 Z = true) {H : List GCell} {q d a bd : Nat} {w : List Int32} (hM : Mk H q d a bd w) :
    Met l Z a0 b (⟨"com/example/tidewheel/tidewheel/engine/strategy/Marks", "size", "()I"⟩ : MethodName) prog_92_method_4_code 1 (some .int) ({ frames := 0, cells := 0, slots := 0, locals := 0 } : Room) [.ref q] H (fun v H' => ∃ u, v = some u ∧ (∃ s : Int32, u = .int s ∧ s.toInt = (w.length : Int) ∧ H' = H)) := by
  obtain ⟨s0, ms, hq, hs, hd, ha, hm, hy, hr⟩ := hM
  refine Met.of_go hw (plainFor_of_name pn_2) (L0 := [.val (.ref q)]) rfl ?_
  intro p e s m args below meth c C
  refine go_aloadN e4_0 rfl rfl ?_
  refine go_getfield e4_1 (wd 20 rfl) hq (j := 2) rfl ?_
  refine go_ireturn e4_4 rfl (by decide) (by decide) ?_
  exact ⟨_, rfl, _, rfl, hs, rfl⟩
set_option maxRecDepth 65536 in
set_option maxHeartbeats 4000000 in
theorem c_get {l : Launch} {Z : State} {a0 : Array Value} {b : Nat} (hw : ∀ d ∈ tables_1, d.before a0 Z = true) {H : List GCell} {q d a bd : Nat} {w : List Int32} {n y : Int32} {k : Nat} (hM : Mk H q d a bd w) (hn : n.toInt = (k : Int)) (hy0 : w[k]? = some y) :
    Met l Z a0 b (⟨"com/example/tidewheel/tidewheel/engine/strategy/Marks", "get", "(I)I"⟩ : MethodName) prog_92_method_5_code 2 (some .int) ({ frames := 0, cells := 0, slots := 0, locals := 0 } : Room) [.ref q, .int n] H (fun v H' => ∃ u, v = some u ∧ (u = .int y ∧ H' = H)) := by
  obtain ⟨s0, ms, hq, hs, hd, ha, hm, hy, hr⟩ := hM
  refine Met.of_go hw (plainFor_of_name pn_2) (L0 := [.val (.ref q), .val (.int n)]) rfl ?_
  intro p e s m args below meth c C
  refine go_aloadN e7_0 rfl rfl ?_
  refine go_getfield e7_1 (wd 13 rfl) hq (j := 1) rfl ?_
  refine go_iloadN e7_4 rfl ?_
  refine go_iaload e7_5 ha (k := k) hn (hy _ _ hy0) ?_
  refine go_ireturn e7_6 rfl (by decide) (by decide) ?_
  exact ⟨_, rfl, rfl, rfl⟩
set_option maxRecDepth 65536 in
set_option maxHeartbeats 4000000 in
theorem c_has {l : Launch} {Z : State} {a0 : Array Value} {b : Nat} (hw : ∀ d ∈ tables_1, d.before a0 Z = true) {H : List GCell} {q d a bd : Nat} {w : List Int32} {x : Int32} {k : Nat} (hM : Mk H q d a bd w) (hx : x.toInt = (k : Int)) (hk : k < bd) :
    Met l Z a0 b (⟨"com/example/tidewheel/tidewheel/engine/strategy/Marks", "contains", "(I)Z"⟩ : MethodName) prog_92_method_3_code 2 (some .boolean) ({ frames := 0, cells := 0, slots := 0, locals := 0 } : Room) [.ref q, .int x] H (fun v H' => ∃ u, v = some u ∧ (u = .int (if x ∈ w then 1 else 0) ∧ H' = H)) := by
  obtain ⟨s0, ms, hq, hs, hd, ha, hm, hy, hr⟩ := hM
  refine Met.of_go hw (plainFor_of_name pn_2) (L0 := [.val (.ref q), .val (.int x)]) rfl ?_
  intro p e s m args below meth c C
  refine go_aloadN e5_0 rfl rfl ?_
  refine go_getfield e5_1 (wd 10 rfl) hq (j := 0) rfl ?_
  refine go_iloadN e5_4 rfl ?_
  refine go_zaload e5_5 hd (k := k) hx (own_held_at hx hk) ?_
  refine go_zreturn e5_6 rfl (own_bit1 _) (by decide) (by decide) ?_
  exact ⟨_, rfl, rfl, rfl⟩
set_option maxRecDepth 65536 in
set_option maxHeartbeats 4000000 in
theorem c_clear {l : Launch} {Z : State} {a0 : Array Value} {b : Nat} (hw : ∀ d ∈ tables_1, d.before a0 Z = true) {H : List GCell} {q d a bd : Nat} {w : List Int32} (hM : Mk H q d a bd w) (hb : bd ≤ 2147483647) (hwb : w.length ≤ 2147483646) :
    Met l Z a0 b (⟨"com/example/tidewheel/tidewheel/engine/strategy/Marks", "clear", "()V"⟩ : MethodName) prog_92_method_6_code 2 none ({ frames := 0, cells := 0, slots := 0, locals := 0 } : Room) [.ref q] H (fun v H' => v = none ∧ Mk H' q d a bd []) := by
  obtain ⟨s0, ms, hq, hs, hd, ha, hm, hy, hr⟩ := hM
  refine Met.of_go hw (plainFor_of_name pn_2) (L0 := [.val (.ref q), .unset]) rfl ?_
  intro p e s m args below meth c C
  have loop : ∀ (r i : Nat) (ii : Int32) (H1 : List GCell), i + r = w.length → ii.toInt = (i : Int) → H1[q]? = some (Mo (.ref d) (.ref a) s0) → H1[d]? = some (ar .boolean (own_held bd (w.filter (fun z => z ∉ w.take i)))) → H1[a]? = some (ar .int ms) → Go C 2 [.val (.ref q), .val (.int ii)] [] H1 0 0 := by
    intro r
    induction r with
    | zero =>
      intro i ii H1 hir hii hq1 hd1 ha1
      have own_e : own_held bd (w.filter (fun z => z ∉ w.take i)) = own_held bd [] := by rw [show i = w.length by omega]; exact own_done
      refine go_iloadN e3_2 rfl ?_
      refine go_aloadN e3_3 rfl rfl ?_
      refine go_getfield e3_4 (wd 20 rfl) hq1 (j := 2) rfl ?_
      refine go_icgeY e3_7 (tg := 28) (by decide) (by rw [hs, hii]; omega) ?_
      refine go_aloadN e3_28 rfl rfl ?_
      refine go_iconst e3_29 (x := 0) rfl ?_
      refine go_putfield e3_30 (wd 20 rfl) (Or.inl (wd 21 rfl)) (wd 1 rfl) pf_3 hq1 (j := 2) rfl rfl rfl ?_
      refine go_return e3_33 rfl (by decide) (by decide) ?_
      exact ⟨rfl, 0, ms, get_eq hq1, rfl, get_ne (by rw [hd1, own_e]) (ne_oa hq1 hd1), get_ne ha1 (ne_oa hq1 ha1), hm, fun i y h => by simp at h, fun y h => by simp at h⟩
    | succ r ih =>
      intro i ii H1 hir hii hq1 hd1 ha1
      obtain ⟨y0, hy0⟩ : ∃ y0, w[i]? = some y0 := ⟨_, List.getElem?_eq_getElem (show i < w.length by omega)⟩
      obtain ⟨k0, hk0, hk1⟩ : ∃ k0 : Nat, y0.toInt = (k0 : Int) ∧ k0 < bd := by
        have := hr y0 (List.mem_of_getElem? hy0)
        exact ⟨y0.toInt.toNat, by omega, by omega⟩
      have hwl : w.length ≤ 2147483646 := hwb
      refine go_iloadN e3_2 rfl ?_
      refine go_aloadN e3_3 rfl rfl ?_
      refine go_getfield e3_4 (wd 20 rfl) hq1 (j := 2) rfl ?_
      refine go_icgeN e3_7 (tg := 28) (by decide) (by rw [hs, hii]; omega) ?_
      refine go_aloadN e3_10 rfl rfl ?_
      refine go_getfield e3_11 (wd 10 rfl) hq1 (j := 0) rfl ?_
      refine go_aloadN e3_14 rfl rfl ?_
      refine go_getfield e3_15 (wd 13 rfl) hq1 (j := 1) rfl ?_
      refine go_iloadN e3_18 rfl ?_
      refine go_iaload e3_19 ha1 (k := i) hii (hy i y0 hy0) ?_
      refine go_iconst e3_20 (x := 0) rfl ?_
      refine go_zastore e3_21 hd1 (k := k0) hk0 (by rw [own_held_len]; exact hk1) ?_
      refine go_iinc_1 e3_22 rfl ?_
      refine go_goto e3_25 (tg := 2) (by decide) ?_
      exact ih (i + 1) (ii + 1) _ (by omega) (own_succ hii (by omega)) (get_ne hq1 (Ne.symm (ne_oa hq1 hd1))) (by rw [get_eq hd1, own_held_clr hk0 hk1 hb, own_next hy0]) (get_ne ha1 (own_aa hd1 ha1))
  refine go_iconst e3_0 (x := 0) rfl ?_
  refine go_istore_1 e3_1 rfl ?_
  refine loop w.length 0 0 H (by omega) rfl hq ?_ ha
  rw [hd, own_held_congr]
  intro z
  simp
set_option maxRecDepth 65536 in
set_option maxHeartbeats 4000000 in
theorem law_met {l : Launch} {Z : State} {a0 : Array Value} {b : Nat} (hw : ∀ d ∈ tables_1, d.before a0 Z = true) (i0 i1 i2 i3 i4 i5 : Int32) :
    Met l Z a0 b x code maxLocals ret room_1 [.int i0, .int i1, .int i2, .int i3, .int i4, .int i5] [] (fun v _ => v = some (.int 1)) := by
  refine Met.of_go hw (plainFor_of_name pn_12) (L0 := [.val (.int i0), .val (.int i1), .val (.int i2), .val (.int i3), .val (.int i4), .val (.int i5), .unset, .unset, .unset, .unset]) rfl ?_
  intro p e s m args below meth c C
  refine go_new e0_0 (wd 0 rfl) (wd 1 rfl) (wd 2 rfl) (lay_10 hw) nd_11 (by decide) (by decide) ?_
  simp only [List.replicate_succ, List.replicate_zero, List.set_cons_zero, List.set_cons_succ, List.length_nil, List.length_cons, Nat.zero_add, Nat.reduceAdd, List.nil_append, List.cons_append]
  refine go_dup e0_3 rfl ?_
  refine go_iconst e0_4 (x := 4) rfl ?_
  refine go_specialV_1 rfl e0_5 (wd 3 rfl) (wd 4 rfl) (wd 5 rfl) (wd 2 rfl) hy_4 pd_8 rfl (c_init hw (bd := 4) rfl rfl (by decide)) rfl 1 rfl (by decide) (by decide) (by decide) (by decide) ?_
  rintro _ hM0
  have hM0 : Mk _ 0 1 2 4 [] := hM0
  obtain ⟨s_0, hMo0⟩ := hM0.ob
  have e0 : ([] : List Int32).length = 0 := rfl
  refine go_astore_6 e0_8 rfl rfl ?_
  refine go_iloadN e0_10 rfl ?_
  refine go_bipush e0_11 (x := 7) rfl ?_
  refine go_iand e0_13 ?_
  refine go_istoreX_7 e0_14 rfl ?_
  intro k hk
  have J : ∀ (H1 : List GCell) (w1 : List Int32), Mk H1 0 1 2 4 w1 → w1.length ≤ 4 → Go C 72 [.val (.int i0), .val (.int i1), .val (.int i2), .val (.int i3), .val (.int i4), .val (.int i5), .val (.ref 0), .val (.int k), .unset, .unset] [] H1 3 19 := by
      intro H1 w1 hM hwl
      obtain ⟨s_j, hMo⟩ := hM.ob
      refine go_aload e0_72 rfl rfl ?_
      refine go_virtualV_0 e0_74 (wd 15 rfl) (wd 16 rfl) (wd 18 rfl) (wd 17 rfl) (wd 19 rfl) (wd 2 rfl) hy_4 pd_5 rfl (c_clear hw hM (by decide) (by omega)) hMo rfl 0 rfl (by decide) (by decide) (by decide) (by decide) ?_
      rintro _ hMc
      obtain ⟨s_c, hMoc⟩ := hMc.ob
      refine go_aload e0_77 rfl rfl ?_
      refine go_virtual_0 e0_79 (wd 22 rfl) (wd 23 rfl) (wd 25 rfl) (wd 24 rfl) (wd 26 rfl) (wd 2 rfl) hy_4 pd_6 rfl (c_size hw hMc) hMoc rfl 0 rfl (by decide) (by decide) (by decide) (by decide) ?_
      rintro _ _ ⟨sz, rfl, hsz, rfl⟩
      refine go_ifneN e0_82 (tg := 125) (by decide) (Int32.toInt_inj.mp (by rw [hsz]; rfl)) ?_
      refine go_aload e0_85 rfl rfl ?_
      refine go_iconst e0_87 (x := 0) rfl ?_
      refine go_virtual_1 e0_88 (wd 27 rfl) (wd 28 rfl) (wd 30 rfl) (wd 29 rfl) (wd 31 rfl) (wd 2 rfl) hy_4 pd_7 rfl (c_has hw (k := 0) hMc (by decide) (by decide)) hMoc rfl 0 rfl (by decide) (by decide) (by decide) (by decide) ?_
      rintro _ _ ⟨rfl, rfl⟩
      refine go_ifneN e0_91 (tg := 125) (by decide) (by decide) ?_
      refine go_aload e0_94 rfl rfl ?_
      refine go_iconst e0_96 (x := 1) rfl ?_
      refine go_virtual_1 e0_97 (wd 27 rfl) (wd 28 rfl) (wd 30 rfl) (wd 29 rfl) (wd 31 rfl) (wd 2 rfl) hy_4 pd_7 rfl (c_has hw (k := 1) hMc (by decide) (by decide)) hMoc rfl 0 rfl (by decide) (by decide) (by decide) (by decide) ?_
      rintro _ _ ⟨rfl, rfl⟩
      refine go_ifneN e0_100 (tg := 125) (by decide) (by decide) ?_
      refine go_aload e0_103 rfl rfl ?_
      refine go_iconst e0_105 (x := 2) rfl ?_
      refine go_virtual_1 e0_106 (wd 27 rfl) (wd 28 rfl) (wd 30 rfl) (wd 29 rfl) (wd 31 rfl) (wd 2 rfl) hy_4 pd_7 rfl (c_has hw (k := 2) hMc (by decide) (by decide)) hMoc rfl 0 rfl (by decide) (by decide) (by decide) (by decide) ?_
      rintro _ _ ⟨rfl, rfl⟩
      refine go_ifneN e0_109 (tg := 125) (by decide) (by decide) ?_
      refine go_aload e0_112 rfl rfl ?_
      refine go_iconst e0_114 (x := 3) rfl ?_
      refine go_virtual_1 e0_115 (wd 27 rfl) (wd 28 rfl) (wd 30 rfl) (wd 29 rfl) (wd 31 rfl) (wd 2 rfl) hy_4 pd_7 rfl (c_has hw (k := 3) hMc (by decide) (by decide)) hMoc rfl 0 rfl (by decide) (by decide) (by decide) (by decide) ?_
      rintro _ _ ⟨rfl, rfl⟩
      refine go_ifneN e0_118 (tg := 125) (by decide) (by decide) ?_
      refine go_iconst e0_121 (x := 1) rfl ?_
      refine go_goto e0_122 (tg := 126) (by decide) ?_
      refine go_istore_8 e0_126 rfl ?_
      refine go_iload e0_128 rfl ?_
      refine go_iconst e0_130 (x := 3) rfl ?_
      refine go_iand e0_131 ?_
      refine go_istoreX_9 e0_132 rfl ?_
      intro f hf
      obtain ⟨kf, hkf, hlf⟩ := own_and3 i5
      rw [← hf] at hkf
      refine go_aload e0_134 rfl rfl ?_
      refine go_iload e0_136 rfl ?_
      refine go_virtualV_1 e0_138 (wd 32 rfl) (wd 33 rfl) (wd 35 rfl) (wd 34 rfl) (wd 36 rfl) (wd 2 rfl) hy_4 pd_8 rfl (c_add hw hMc hkf hlf (by decide) (fun _ => by decide)) hMoc rfl 0 rfl (by decide) (by decide) (by decide) (by decide) ?_
      rintro _ hMf
      have hMf : Mk _ 0 1 2 4 [f] := hMf
      obtain ⟨s_f, hMof⟩ := hMf.ob
      refine go_iload e0_141 rfl ?_
      refine go_ifeqN e0_143 (tg := 180) (by decide) (by decide) ?_
      refine go_aload e0_146 rfl rfl ?_
      refine go_virtual_0 e0_148 (wd 22 rfl) (wd 23 rfl) (wd 25 rfl) (wd 24 rfl) (wd 26 rfl) (wd 2 rfl) hy_4 pd_6 rfl (c_size hw hMf) hMof rfl 0 rfl (by decide) (by decide) (by decide) (by decide) ?_
      rintro _ _ ⟨sf, rfl, hsf, rfl⟩
      refine go_iconst e0_151 (x := 1) rfl ?_
      refine go_icneN e0_152 (tg := 180) (by decide) (Int32.toInt_inj.mp (by rw [hsf]; rfl)) ?_
      refine go_aload e0_155 rfl rfl ?_
      refine go_iconst e0_157 (x := 0) rfl ?_
      refine go_virtual_1 e0_158 (wd 37 rfl) (wd 38 rfl) (wd 40 rfl) (wd 39 rfl) (wd 41 rfl) (wd 2 rfl) hy_4 pd_9 rfl (c_get hw (k := 0) hMf (by decide) rfl) hMof rfl 0 rfl (by decide) (by decide) (by decide) (by decide) ?_
      rintro _ _ ⟨rfl, rfl⟩
      refine go_iload e0_161 rfl ?_
      refine go_icneN e0_163 (tg := 180) (by decide) rfl ?_
      refine go_aload e0_166 rfl rfl ?_
      refine go_iload e0_168 rfl ?_
      refine go_virtual_1 e0_170 (wd 27 rfl) (wd 28 rfl) (wd 30 rfl) (wd 29 rfl) (wd 31 rfl) (wd 2 rfl) hy_4 pd_7 rfl (c_has hw hMf hkf hlf) hMof rfl 0 rfl (by decide) (by decide) (by decide) (by decide) ?_
      rintro _ _ ⟨rfl, rfl⟩
      refine go_ifeqN e0_173 (tg := 180) (by decide) (by simp) ?_
      refine go_iconst e0_176 (x := 1) rfl ?_
      refine go_goto e0_177 (tg := 181) (by decide) ?_
      refine go_zreturn e0_181 rfl (by decide) (by decide) (by decide) ?_
      exact rfl
  refine go_iload e0_16 rfl ?_
  refine go_ifle e0_18 (tg := 29) (by decide) ?_ ?_
  · intro c18
    refine go_iload e0_29 rfl ?_
    refine go_iconst e0_31 (x := 1) rfl ?_
    refine go_icleY e0_32 (tg := 43) (by decide) (by have kk : (1 : Int32).toInt = 1 := rfl; have kj : (1 : Int32).toInt = 1 := rfl; have kl : (2 : Int32).toInt = 2 := rfl; omega) ?_
    refine go_iload e0_43 rfl ?_
    refine go_iconst e0_45 (x := 2) rfl ?_
    refine go_icleY e0_46 (tg := 57) (by decide) (by have kk : (2 : Int32).toInt = 2 := rfl; have kj : (1 : Int32).toInt = 1 := rfl; have kl : (2 : Int32).toInt = 2 := rfl; omega) ?_
    refine go_iload e0_57 rfl ?_
    refine go_iconst e0_59 (x := 3) rfl ?_
    refine go_icleY e0_60 (tg := 72) (by decide) (by have kk : (3 : Int32).toInt = 3 := rfl; have kj : (1 : Int32).toInt = 1 := rfl; have kl : (2 : Int32).toInt = 2 := rfl; omega) ?_
    first | exact J _ _ hM4 (by omega) | exact J _ _ hM3 (by omega) | exact J _ _ hM2 (by omega) | exact J _ _ hM1 (by omega) | exact J _ _ hM0 (by omega)
  · intro c18
    refine go_aload e0_21 rfl rfl ?_
    refine go_iloadN e0_23 rfl ?_
    refine go_iconst e0_24 (x := 3) rfl ?_
    refine go_iand e0_25 ?_
    obtain ⟨k1, hk1, hl1⟩ := own_and3 i1
    refine go_virtualV_1 e0_26 (wd 32 rfl) (wd 33 rfl) (wd 35 rfl) (wd 34 rfl) (wd 36 rfl) (wd 2 rfl) hy_4 pd_8 rfl (c_add hw hM0 hk1 hl1 (by decide) (fun _ => by omega)) hMo0 rfl 0 rfl (by decide) (by decide) (by decide) (by decide) ?_
    rintro _ hM1
    obtain ⟨s_1, hMo1⟩ := hM1.ob
    have hn1 := own_add_len (([] : List Int32)) (i1 &&& 3)
    try simp only [List.replicate_succ, List.replicate_zero, List.set_cons_zero, List.set_cons_succ, List.length_nil, List.length_cons, Nat.zero_add, Nat.reduceAdd, List.nil_append, List.cons_append]
    refine go_iload e0_29 rfl ?_
    refine go_iconst e0_31 (x := 1) rfl ?_
    refine go_icle e0_32 (tg := 43) (by decide) ?_ ?_
    · intro c32
      refine go_iload e0_43 rfl ?_
      refine go_iconst e0_45 (x := 2) rfl ?_
      refine go_icleY e0_46 (tg := 57) (by decide) (by have kk : (2 : Int32).toInt = 2 := rfl; have kj : (1 : Int32).toInt = 1 := rfl; have kl : (2 : Int32).toInt = 2 := rfl; omega) ?_
      refine go_iload e0_57 rfl ?_
      refine go_iconst e0_59 (x := 3) rfl ?_
      refine go_icleY e0_60 (tg := 72) (by decide) (by have kk : (3 : Int32).toInt = 3 := rfl; have kj : (1 : Int32).toInt = 1 := rfl; have kl : (2 : Int32).toInt = 2 := rfl; omega) ?_
      first | exact J _ _ hM4 (by omega) | exact J _ _ hM3 (by omega) | exact J _ _ hM2 (by omega) | exact J _ _ hM1 (by omega) | exact J _ _ hM0 (by omega)
    · intro c32
      refine go_aload e0_35 rfl rfl ?_
      refine go_iloadN e0_37 rfl ?_
      refine go_iconst e0_38 (x := 3) rfl ?_
      refine go_iand e0_39 ?_
      obtain ⟨k2, hk2, hl2⟩ := own_and3 i2
      refine go_virtualV_1 e0_40 (wd 32 rfl) (wd 33 rfl) (wd 35 rfl) (wd 34 rfl) (wd 36 rfl) (wd 2 rfl) hy_4 pd_8 rfl (c_add hw hM1 hk2 hl2 (by decide) (fun _ => by omega)) hMo1 rfl 0 rfl (by decide) (by decide) (by decide) (by decide) ?_
      rintro _ hM2
      obtain ⟨s_2, hMo2⟩ := hM2.ob
      have hn2 := own_add_len ((own_add ([]) (i1 &&& 3) : List Int32)) (i2 &&& 3)
      try simp only [List.replicate_succ, List.replicate_zero, List.set_cons_zero, List.set_cons_succ, List.length_nil, List.length_cons, Nat.zero_add, Nat.reduceAdd, List.nil_append, List.cons_append]
      refine go_iload e0_43 rfl ?_
      refine go_iconst e0_45 (x := 2) rfl ?_
      refine go_icle e0_46 (tg := 57) (by decide) ?_ ?_
      · intro c46
        refine go_iload e0_57 rfl ?_
        refine go_iconst e0_59 (x := 3) rfl ?_
        refine go_icleY e0_60 (tg := 72) (by decide) (by have kk : (3 : Int32).toInt = 3 := rfl; have kj : (1 : Int32).toInt = 1 := rfl; have kl : (2 : Int32).toInt = 2 := rfl; omega) ?_
        first | exact J _ _ hM4 (by omega) | exact J _ _ hM3 (by omega) | exact J _ _ hM2 (by omega) | exact J _ _ hM1 (by omega) | exact J _ _ hM0 (by omega)
      · intro c46
        refine go_aload e0_49 rfl rfl ?_
        refine go_iloadN e0_51 rfl ?_
        refine go_iconst e0_52 (x := 3) rfl ?_
        refine go_iand e0_53 ?_
        obtain ⟨k3, hk3, hl3⟩ := own_and3 i3
        refine go_virtualV_1 e0_54 (wd 32 rfl) (wd 33 rfl) (wd 35 rfl) (wd 34 rfl) (wd 36 rfl) (wd 2 rfl) hy_4 pd_8 rfl (c_add hw hM2 hk3 hl3 (by decide) (fun _ => by omega)) hMo2 rfl 0 rfl (by decide) (by decide) (by decide) (by decide) ?_
        rintro _ hM3
        obtain ⟨s_3, hMo3⟩ := hM3.ob
        have hn3 := own_add_len ((own_add (own_add ([]) (i1 &&& 3)) (i2 &&& 3) : List Int32)) (i3 &&& 3)
        try simp only [List.replicate_succ, List.replicate_zero, List.set_cons_zero, List.set_cons_succ, List.length_nil, List.length_cons, Nat.zero_add, Nat.reduceAdd, List.nil_append, List.cons_append]
        refine go_iload e0_57 rfl ?_
        refine go_iconst e0_59 (x := 3) rfl ?_
        refine go_icle e0_60 (tg := 72) (by decide) ?_ ?_
        · intro c60
          first | exact J _ _ hM4 (by omega) | exact J _ _ hM3 (by omega) | exact J _ _ hM2 (by omega) | exact J _ _ hM1 (by omega) | exact J _ _ hM0 (by omega)
        · intro c60
          refine go_aload e0_63 rfl rfl ?_
          refine go_iload e0_65 rfl ?_
          refine go_iconst e0_67 (x := 3) rfl ?_
          refine go_iand e0_68 ?_
          obtain ⟨k4, hk4, hl4⟩ := own_and3 i4
          refine go_virtualV_1 e0_69 (wd 32 rfl) (wd 33 rfl) (wd 35 rfl) (wd 34 rfl) (wd 36 rfl) (wd 2 rfl) hy_4 pd_8 rfl (c_add hw hM3 hk4 hl4 (by decide) (fun _ => by omega)) hMo3 rfl 0 rfl (by decide) (by decide) (by decide) (by decide) ?_
          rintro _ hM4
          obtain ⟨s_4, hMo4⟩ := hM4.ob
          have hn4 := own_add_len ((own_add (own_add (own_add ([]) (i1 &&& 3)) (i2 &&& 3)) (i3 &&& 3) : List Int32)) (i4 &&& 3)
          try simp only [List.replicate_succ, List.replicate_zero, List.set_cons_zero, List.set_cons_succ, List.length_nil, List.length_cons, Nat.zero_add, Nat.reduceAdd, List.nil_append, List.cons_append]
          first | exact J _ _ hM4 (by omega) | exact J _ _ hM3 (by omega) | exact J _ _ hM2 (by omega) | exact J _ _ hM1 (by omega) | exact J _ _ hM0 (by omega)
set_option maxRecDepth 65536 in
set_option maxHeartbeats 40000000 in
theorem comes_1 {Post : Tables → Env → Array Value → State → Outcome → State → Prop} (hpost : ∀ tb e args s v u, (limb_1_1.after args s (.returned v) u = true ∧ limb_1_2.after args s (.returned v) u = true ∧ True) → FrameEnd s (.returned v) u (Jvm.fieldLocs frame_1_writes args s ++ Jvm.arrayLocs frame_1_arrays args s ++ Jvm.staticLocs frame_1_statics s) 16 128 → Post tb e args s (.returned v) u) :
    ArmFor flags0 classFile x code maxLocals ret World_1 tables_1 room_1 Calls_1 rest_1 Pre_1 Post := by
  intro l hfl _ _ p e ha hc hk s m args below hf hA hF happ hP
  obtain ⟨hcalls, hrest, hpre⟩ := hP
  obtain ⟨-, -, -, hnamed, -, -, -, hat⟩ := (Spec.applies_iff hf).mp happ
  obtain ⟨hg, hn⟩ := and_e (Cond.before_iff.mp (show (Jvm.Cond.and given_1 narrow_1).before args s = true from hpre))
  obtain ⟨h1, h2⟩ := and_e hg
  obtain ⟨w0, w1, w2, w3, w4, w5, rfl⟩ : ∃ w0 w1 w2 w3 w4 w5 : Value, args = #[w0, w1, w2, w3, w4, w5] := by
    have hs : args.size = 6 := by simpa [Cond.value, given_1] using h1
    obtain ⟨L⟩ := args
    match L, hs with
    | [w0, w1, w2, w3, w4, w5], _ => exact ⟨w0, w1, w2, w3, w4, w5, rfl⟩
  have hw := fun d (hd : d ∈ tables_1) => atoms_spec (ws := Jvm.Cond.code x code maxLocals ret :: tables_1) hat d (List.mem_cons_of_mem _ hd)
  obtain ⟨a0, b0⟩ := and_e h2
  obtain ⟨i0, e0⟩ := is_v a0
  obtain rfl : w0 = (.int i0) := Option.some.inj e0
  obtain ⟨a1, b1⟩ := and_e b0
  obtain ⟨i1, e1⟩ := is_v a1
  obtain rfl : w1 = (.int i1) := Option.some.inj e1
  obtain ⟨a2, b2⟩ := and_e b1
  obtain ⟨i2, e2⟩ := is_v a2
  obtain rfl : w2 = (.int i2) := Option.some.inj e2
  obtain ⟨a3, b3⟩ := and_e b2
  obtain ⟨i3, e3⟩ := is_v a3
  obtain rfl : w3 = (.int i3) := Option.some.inj e3
  obtain ⟨a4, b4⟩ := and_e b3
  obtain ⟨i4, e4⟩ := is_v a4
  obtain rfl : w4 = (.int i4) := Option.some.inj e4
  obtain ⟨i5, e5⟩ := is_v b4
  obtain rfl : w5 = (.int i5) := Option.some.inj e5
  obtain ⟨n, o, h1, h2, h3, _, L, rfl, ⟨N, v', H', rfl, -, rfl⟩, hq⟩ := law_met (l := l) (Z := s) (b := s.heap.size) hw i0 i1 i2 i3 i4 i5 s.heap (Rel.nil s.heap) tables_1 p e ha hc hk s m _ below hf ((Spec.applies_iff_loose hf).mp happ).1 ⟨rfl, State.Warmed39.refl s, rfl⟩ trivial
  refine ⟨n, _, h1, h2, h3, hpost _ _ _ _ _ _ ⟨Cond.after_iff.mpr rfl, Cond.after_iff.mpr (eq_i res_at (Term.int_eval (1)) rfl), trivial⟩ ⟨hq.1, hq.2.1, (hq.2.2.sift fun y hy => Or.inr (N y hy)).mono (by decide) (by decide)⟩⟩
theorem main_1_1 : Claimed_1_1 := comes_1 fun _ _ _ _ _ _ h hF => ⟨h.1, hF⟩
theorem main_1_2 : Claimed_1_2 := comes_1 fun _ _ _ _ _ _ h hF => ⟨h.2.1, hF⟩
end Jvm.Pilot.@@N@@
namespace Jvm.Pilot.@@N@@
open Jvm Jvm.ClassFile Sem Op Lib Jvm.Free Jvm.Stand Jvm.Pilot.@@N@@.Jvm.D
/-! MADE BY PROGRAM (witnessworld.py) out of the Statement's table words and the real class files: 11 classes; the members and pool entries that the words name. The judged class is class 1, her method 1. -/
namespace start1
open Jvm.ClassFile
def u (s : String) : CpInfo := .utf8 (stringToUtf16 s)
/-- a pool by its gaps: so many unusable entries, then the entry; so many at the end -/
def gap : Nat → List CpInfo → List CpInfo
  | 0, r => r
  | n + 1, r => .unusable :: gap n r
def poolList (es : List (Nat × CpInfo)) (last : Nat) : List CpInfo := es.foldr (fun e r => gap e.1 (e.2 :: r)) (gap last [])
def pool (es : List (Nat × CpInfo)) (last : Nat) : Array CpInfo := ⟨poolList es last⟩
def fileOf (pool : Array CpInfo) (this : Nat) (attrs : Array Attribute := #[]) (ms : Array MethodInfo := #[]) (fl : Nat := 33) (sup : Nat := 0) (ifs : Array Nat := #[]) (fds : Array FieldInfo := #[]) : ClassFile where
  minorVersion := 0
  majorVersion := 65
  constantPool := pool
  accessFlags := fl
  thisClass := this
  superClass := sup
  interfaces := ifs
  fields := fds
  methods := ms
  attributes := attrs
def plain (name : String) (sup : Option ClassId) : Class where
  name := name
  kind := .ordinary
  loader := none
  accessFlags := 33
  super := sup
  interfaces := #[]
  cf := none
  fields := #[]
  methods := #[]
  instanceTypes := #[]
  staticTypes := #[]
  resolved := #[]
  callSites := []
  init := .initialized
  statics := none
  mirror := none

def pool0 : Array CpInfo := pool [(5, u "<init>"), (0, u "()V"), (1, .class_ 10), (1, u "java/lang/Object")] 113

def k0c0 : Code := { maxStack := 0, maxLocals := 1, code := object_method_1_code, exceptionTable := #[], attributes := #[] }
def k0m0 : Method := { name := "<init>", desc := "()V", sig := { parameters := [], returnType := none }, accessFlags := 1, code := some k0c0 }
/-- java/lang/Object -/
def k0 : Class := { plain "java/lang/Object" none with
  accessFlags := 33
  interfaces := #[]
  cf := some (fileOf pool0 8 #[] #[{ accessFlags := 1, nameIndex := 5, descriptorIndex := 6, attributes := #[] }] 33 0 #[] #[])
  fields := #[]
  methods := #[k0m0]
  instanceTypes := #[]
  staticTypes := #[]
  resolved := Array.replicate 124 none
  statics := none }

def pool1 : Array CpInfo := pool [(2, .class_ 4), (1, u "java/lang/Object"), (0, u "<init>"), (0, u "()V"), (0, .class_ 8), (0, u "com/example/tidewheel/tidewheel/engine/strategy/Marks"), (0, .methodref 7 10), (0, .nameAndType 5 11), (0, u "(I)V"), (0, .methodref 7 13), (0, .nameAndType 14 11), (0, u "add"), (0, .methodref 7 16), (0, .nameAndType 17 6), (0, u "clear"), (0, .methodref 7 19), (0, .nameAndType 20 21), (0, u "size"), (0, u "()I"), (0, .methodref 7 23), (0, .nameAndType 24 25), (0, u "contains"), (0, u "(I)Z"), (0, .methodref 7 27), (0, .nameAndType 28 29), (0, u "get"), (0, u "(I)I"), (0, .class_ 31), (0, u "com/example/tidewheel/tidewheel/engine/strategy/MarksClearPinLaw"), (2, u "law"), (0, u "(IIIIII)Z")] 3

def k1m0 : Method := { name := "<init>", desc := "()V", sig := { parameters := [], returnType := none }, accessFlags := 2, code := none }
def k1c1 : Code := { maxStack := 3, maxLocals := 10, code := code, exceptionTable := #[], attributes := #[] }
def k1m1 : Method := { name := "law", desc := "(IIIIII)Z", sig := { parameters := [.int, .int, .int, .int, .int, .int], returnType := some .boolean }, accessFlags := 9, code := some k1c1 }
/-- com/example/tidewheel/tidewheel/engine/strategy/MarksClearPinLaw -/
def k1 : Class := { plain "com/example/tidewheel/tidewheel/engine/strategy/MarksClearPinLaw" (some 0) with
  accessFlags := 49
  interfaces := #[]
  cf := some (fileOf pool1 30 #[] #[{ accessFlags := 2, nameIndex := 5, descriptorIndex := 6, attributes := #[] }, { accessFlags := 9, nameIndex := 34, descriptorIndex := 35, attributes := #[] }] 49 2 #[] #[])
  fields := #[]
  methods := #[k1m0, k1m1]
  instanceTypes := #[]
  staticTypes := #[]
  resolved := Array.replicate 39 none
  statics := none }

def pool2 : Array CpInfo := pool [(1, .methodref 2 3), (0, .class_ 4), (0, .nameAndType 5 6), (0, u "java/lang/Object"), (0, u "<init>"), (0, u "()V"), (0, .fieldref 8 9), (0, .class_ 10), (0, .nameAndType 11 12), (0, u "com/example/tidewheel/tidewheel/engine/strategy/Marks"), (0, u "held"), (0, u "[Z"), (0, .fieldref 8 14), (0, .nameAndType 15 16), (0, u "members"), (0, u "[I"), (0, .fieldref 8 18), (0, .nameAndType 19 20), (0, u "size"), (0, u "I"), (0, u "(I)V"), (2, u "add"), (1, u "contains"), (0, u "(I)Z"), (0, u "()I"), (0, u "get"), (0, u "(I)I"), (0, u "clear")] 2

def k2c0 : Code := { maxStack := 2, maxLocals := 2, code := prog_92_method_1_code, exceptionTable := #[], attributes := #[] }
def k2m0 : Method := { name := "<init>", desc := "(I)V", sig := { parameters := [.int], returnType := none }, accessFlags := 0, code := some k2c0 }
def k2c1 : Code := { maxStack := 5, maxLocals := 2, code := prog_92_method_2_code, exceptionTable := #[], attributes := #[] }
def k2m1 : Method := { name := "add", desc := "(I)V", sig := { parameters := [.int], returnType := none }, accessFlags := 0, code := some k2c1 }
def k2c2 : Code := { maxStack := 2, maxLocals := 2, code := prog_92_method_3_code, exceptionTable := #[], attributes := #[] }
def k2m2 : Method := { name := "contains", desc := "(I)Z", sig := { parameters := [.int], returnType := some .boolean }, accessFlags := 0, code := some k2c2 }
def k2c3 : Code := { maxStack := 1, maxLocals := 1, code := prog_92_method_4_code, exceptionTable := #[], attributes := #[] }
def k2m3 : Method := { name := "size", desc := "()I", sig := { parameters := [], returnType := some .int }, accessFlags := 0, code := some k2c3 }
def k2c4 : Code := { maxStack := 2, maxLocals := 2, code := prog_92_method_5_code, exceptionTable := #[], attributes := #[] }
def k2m4 : Method := { name := "get", desc := "(I)I", sig := { parameters := [.int], returnType := some .int }, accessFlags := 0, code := some k2c4 }
def k2c5 : Code := { maxStack := 3, maxLocals := 2, code := prog_92_method_6_code, exceptionTable := #[], attributes := #[] }
def k2m5 : Method := { name := "clear", desc := "()V", sig := { parameters := [], returnType := none }, accessFlags := 0, code := some k2c5 }
/-- com/example/tidewheel/tidewheel/engine/strategy/Marks -/
def k2 : Class := { plain "com/example/tidewheel/tidewheel/engine/strategy/Marks" (some 0) with
  accessFlags := 48
  interfaces := #[]
  cf := some (fileOf pool2 8 #[] #[{ accessFlags := 0, nameIndex := 5, descriptorIndex := 21, attributes := #[] }, { accessFlags := 0, nameIndex := 24, descriptorIndex := 21, attributes := #[] }, { accessFlags := 0, nameIndex := 26, descriptorIndex := 27, attributes := #[] }, { accessFlags := 0, nameIndex := 19, descriptorIndex := 28, attributes := #[] }, { accessFlags := 0, nameIndex := 29, descriptorIndex := 30, attributes := #[] }, { accessFlags := 0, nameIndex := 31, descriptorIndex := 6, attributes := #[] }] 48 2 #[] #[{ accessFlags := 18, nameIndex := 11, descriptorIndex := 12, attributes := #[] }, { accessFlags := 18, nameIndex := 15, descriptorIndex := 16, attributes := #[] }, { accessFlags := 2, nameIndex := 19, descriptorIndex := 20, attributes := #[] }])
  fields := #[{ name := "held", type := (.array .boolean), accessFlags := 18, slot := 0, constantValue := 0 }, { name := "members", type := (.array .int), accessFlags := 18, slot := 1, constantValue := 0 }, { name := "size", type := .int, accessFlags := 2, slot := 2, constantValue := 0 }]
  methods := #[k2m0, k2m1, k2m2, k2m3, k2m4, k2m5]
  instanceTypes := #[(.array .boolean), (.array .int), .int]
  staticTypes := #[]
  resolved := Array.replicate 34 none
  statics := none }

def pool3 : Array CpInfo := pool [(1, u "java/lang/Cloneable"), (0, .class_ 1), (0, u "java/lang/Object"), (0, .class_ 3)] 3

/-- java/lang/Cloneable -/
def k3 : Class := { plain "java/lang/Cloneable" (some 0) with
  accessFlags := 1537
  interfaces := #[]
  cf := some (fileOf pool3 2 #[] #[] 1537 4 #[] #[])
  fields := #[]
  methods := #[]
  instanceTypes := #[]
  staticTypes := #[]
  resolved := Array.replicate 8 none
  statics := none }

def pool4 : Array CpInfo := pool [(1, u "java/io/Serializable"), (0, .class_ 1), (0, u "java/lang/Object"), (0, .class_ 3)] 3

/-- java/io/Serializable -/
def k4 : Class := { plain "java/io/Serializable" (some 0) with
  accessFlags := 1537
  interfaces := #[]
  cf := some (fileOf pool4 2 #[] #[] 1537 4 #[] #[])
  fields := #[]
  methods := #[]
  instanceTypes := #[]
  staticTypes := #[]
  resolved := Array.replicate 8 none
  statics := none }

/-- the primitive boolean -/
def k5 : Class := { plain "boolean" none with kind := .primitive 'Z', accessFlags := 0x411 }
/-- [Z -/
def k6 : Class := { plain "[Z" (some 0) with kind := .array 5 .boolean, interfaces := #[3, 4], accessFlags := 1041 }

/-- the primitive byte -/
def k7 : Class := { plain "byte" none with kind := .primitive 'B', accessFlags := 0x411 }
/-- [B -/
def k8 : Class := { plain "[B" (some 0) with kind := .array 7 .byte, interfaces := #[3, 4], accessFlags := 1041 }

/-- the primitive int -/
def k9 : Class := { plain "int" none with kind := .primitive 'I', accessFlags := 0x411 }
/-- [I -/
def k10 : Class := { plain "[I" (some 0) with kind := .array 9 .int, interfaces := #[3, 4], accessFlags := 1041 }

def heap : Heap := #[]
def classes : Array Class := #[k0, k1, k2, k3, k4, k5, k6, k7, k8, k9, k10]
def interned : List (Array UInt16 × Addr) := []
def slotsUsed : Nat := 0
def theMethod : MethodId := ⟨1, 1⟩
def args0 : Array Value := #[.int 5, .int 2, .int 9, .int 1, .int 4, .int 1]
def aboutOver (below : List Frame) : State where
  vm := { classes := classes, interned := interned.toArray }
  heap := heap
  slotsUsed := slotsUsed
  threads := #[{ frames := .invoking theMethod args0 :: below }]
def below0 : List Frame := [.native { method := ⟨0, 0⟩, args := #[] }]
def about1 : State := aboutOver below0
def p0 : Program := .bare "" "" ""
def e0 : Env := launch0.env 0 0 0
theorem w_frames : about1.frames = Frame.invoking theMethod args0 :: below0 := rfl
set_option maxRecDepth 65536 in
theorem w_args : argsFit about1.vm theMethod args0 = true := by decide +kernel
set_option maxRecDepth 65536 in
theorem w_heap : heapFits about1 = true := by decide +kernel
set_option maxRecDepth 65536 in
theorem w_runnable : about1.curStatus? = some .runnable := by decide +kernel
set_option maxRecDepth 65536 in
theorem w_alone : about1.alone = true := by decide +kernel
set_option maxRecDepth 65536 in
theorem w_named : about1.methodNamed? x = some theMethod := by decide +kernel
set_option maxRecDepth 65536 in
theorem w_hears : about1.hears theMethod below0 = true := by decide +kernel
set_option maxRecDepth 65536 in
theorem w_ripe : about1.ripe theMethod args0 below0 = true := by decide +kernel
theorem w_running : about1.status = .running := rfl
set_option maxRecDepth 65536 in
theorem w_room : about1.hasRoom e0.platform room_1 = true :=
  launch0.hasRoom_least _ room_1 (by decide +kernel) (by decide +kernel) (by decide +kernel) (by decide +kernel) (by decide +kernel) (by decide +kernel)
theorem allAtoms_all (ts : List Jvm.Cond) (a : Array Jvm.Value) (st : Jvm.State) : (allAtoms ts).before a st = ts.all (fun c => c.before a st) := by
  induction ts with
  | nil => rfl
  | cons c t ih =>
    show (Jvm.Cond.and c (allAtoms t)).before a st = _
    rw [Jvm.Cond.before_and, ih, List.all_cons]
def words1 : List Jvm.Cond := Jvm.Cond.code x code maxLocals ret :: tables_1
/-- a 'code' word, met by the world's own term for the bytes: nothing is compared byte by byte -/
theorem code_word {y : MethodName} {bytes : ByteArray} {mx : Nat} {rt : Option FieldType} {a : Array Value} {s : State} {m : MethodId} {meth : Method} {c : Code} (h1 : s.methodNamed? y = some m) (h2 : s.vm.method? m = some meth) (h3 : meth.code = some c) (h4 : c.code = bytes)
    (h5 : (c.maxLocals == mx && c.exceptionTable.isEmpty && decide (c.maxStack ≤ mostOperands) && decide (meth.sig.returnType = rt) && !meth.locks && decide (parseMethodDescriptor y.desc = some meth.sig)) = true) : (Jvm.Cond.code y bytes mx rt).before a s = true := by
  simp only [Bool.and_eq_true, beq_iff_eq, Bool.not_eq_true', decide_eq_true_eq] at h5
  obtain ⟨⟨⟨⟨⟨g1, g2⟩, g3⟩, g4⟩, g5⟩, g6⟩ := h5
  simp [Cond.before, Cond.holds, Cond.value, h1, h2, h3, h4, g1, g2, g3, g4, g5, g6]
def isCode : Jvm.Cond → Bool
  | .code _ _ _ _ => true
  | _ => false
theorem all_split {L : List Jvm.Cond} {P : Jvm.Cond → Bool} (h1 : L.all (fun c => isCode c || P c) = true) (h2 : ∀ c ∈ L.filter isCode, P c = true) : L.all P = true := by
  refine List.all_eq_true.mpr fun c hc => ?_
  have h := List.all_eq_true.mp h1 c hc
  rcases Bool.eq_false_or_eq_true (isCode c) with hi | hi
  · exact h2 c (List.mem_filter.mpr ⟨hc, hi⟩)
  · simpa [hi] using h
set_option maxRecDepth 65536 in
theorem w_c0 : (Jvm.Cond.code x code maxLocals ret).before args0 about1 = true := code_word (m := ⟨1, 1⟩) (meth := k1m1) (c := k1c1) (by decide +kernel) rfl rfl rfl (by decide +kernel)
set_option maxRecDepth 65536 in
theorem w_c1 : (Jvm.Cond.code ({ cls := "com/example/tidewheel/tidewheel/engine/strategy/Marks", name := "<init>", desc := "(I)V" } : Jvm.MethodName) prog_92_method_1_code (2 : Nat) (Option.none : Option Jvm.ClassFile.FieldType)).before args0 about1 = true := code_word (m := ⟨2, 0⟩) (meth := k2m0) (c := k2c0) (by decide +kernel) rfl rfl rfl (by decide +kernel)
set_option maxRecDepth 65536 in
theorem w_c2 : (Jvm.Cond.code ({ cls := "java/lang/Object", name := "<init>", desc := "()V" } : Jvm.MethodName) object_method_1_code (1 : Nat) (Option.none : Option Jvm.ClassFile.FieldType)).before args0 about1 = true := code_word (m := ⟨0, 0⟩) (meth := k0m0) (c := k0c0) (by decide +kernel) rfl rfl rfl (by decide +kernel)
set_option maxRecDepth 65536 in
theorem w_c3 : (Jvm.Cond.code ({ cls := "com/example/tidewheel/tidewheel/engine/strategy/Marks", name := "clear", desc := "()V" } : Jvm.MethodName) prog_92_method_6_code (2 : Nat) (Option.none : Option Jvm.ClassFile.FieldType)).before args0 about1 = true := code_word (m := ⟨2, 5⟩) (meth := k2m5) (c := k2c5) (by decide +kernel) rfl rfl rfl (by decide +kernel)
set_option maxRecDepth 65536 in
theorem w_c4 : (Jvm.Cond.code ({ cls := "com/example/tidewheel/tidewheel/engine/strategy/Marks", name := "size", desc := "()I" } : Jvm.MethodName) prog_92_method_4_code (1 : Nat) (Option.some Jvm.ClassFile.FieldType.int)).before args0 about1 = true := code_word (m := ⟨2, 3⟩) (meth := k2m3) (c := k2c3) (by decide +kernel) rfl rfl rfl (by decide +kernel)
set_option maxRecDepth 65536 in
theorem w_c5 : (Jvm.Cond.code ({ cls := "com/example/tidewheel/tidewheel/engine/strategy/Marks", name := "contains", desc := "(I)Z" } : Jvm.MethodName) prog_92_method_3_code (2 : Nat) (Option.some Jvm.ClassFile.FieldType.boolean)).before args0 about1 = true := code_word (m := ⟨2, 2⟩) (meth := k2m2) (c := k2c2) (by decide +kernel) rfl rfl rfl (by decide +kernel)
set_option maxRecDepth 65536 in
theorem w_c6 : (Jvm.Cond.code ({ cls := "com/example/tidewheel/tidewheel/engine/strategy/Marks", name := "add", desc := "(I)V" } : Jvm.MethodName) prog_92_method_2_code (2 : Nat) (Option.none : Option Jvm.ClassFile.FieldType)).before args0 about1 = true := code_word (m := ⟨2, 1⟩) (meth := k2m1) (c := k2c1) (by decide +kernel) rfl rfl rfl (by decide +kernel)
set_option maxRecDepth 65536 in
theorem w_c7 : (Jvm.Cond.code ({ cls := "com/example/tidewheel/tidewheel/engine/strategy/Marks", name := "get", desc := "(I)I" } : Jvm.MethodName) prog_92_method_5_code (2 : Nat) (Option.some Jvm.ClassFile.FieldType.int)).before args0 about1 = true := code_word (m := ⟨2, 4⟩) (meth := k2m4) (c := k2c4) (by decide +kernel) rfl rfl rfl (by decide +kernel)
def codes1 : List Jvm.Cond := [Jvm.Cond.code x code maxLocals ret, Jvm.Cond.code ({ cls := "com/example/tidewheel/tidewheel/engine/strategy/Marks", name := "<init>", desc := "(I)V" } : Jvm.MethodName) prog_92_method_1_code (2 : Nat) (Option.none : Option Jvm.ClassFile.FieldType), Jvm.Cond.code ({ cls := "java/lang/Object", name := "<init>", desc := "()V" } : Jvm.MethodName) object_method_1_code (1 : Nat) (Option.none : Option Jvm.ClassFile.FieldType), Jvm.Cond.code ({ cls := "com/example/tidewheel/tidewheel/engine/strategy/Marks", name := "clear", desc := "()V" } : Jvm.MethodName) prog_92_method_6_code (2 : Nat) (Option.none : Option Jvm.ClassFile.FieldType), Jvm.Cond.code ({ cls := "com/example/tidewheel/tidewheel/engine/strategy/Marks", name := "size", desc := "()I" } : Jvm.MethodName) prog_92_method_4_code (1 : Nat) (Option.some Jvm.ClassFile.FieldType.int), Jvm.Cond.code ({ cls := "com/example/tidewheel/tidewheel/engine/strategy/Marks", name := "contains", desc := "(I)Z" } : Jvm.MethodName) prog_92_method_3_code (2 : Nat) (Option.some Jvm.ClassFile.FieldType.boolean), Jvm.Cond.code ({ cls := "com/example/tidewheel/tidewheel/engine/strategy/Marks", name := "add", desc := "(I)V" } : Jvm.MethodName) prog_92_method_2_code (2 : Nat) (Option.none : Option Jvm.ClassFile.FieldType), Jvm.Cond.code ({ cls := "com/example/tidewheel/tidewheel/engine/strategy/Marks", name := "get", desc := "(I)I" } : Jvm.MethodName) prog_92_method_5_code (2 : Nat) (Option.some Jvm.ClassFile.FieldType.int)]
set_option maxRecDepth 65536 in
theorem codes_eq : words1.filter isCode = codes1 := rfl
theorem w_codes : ∀ c ∈ words1.filter isCode, c.before args0 about1 = true := by
  rw [codes_eq]
  intro c hc
  simp only [codes1, List.mem_cons, List.not_mem_nil, or_false] at hc
  rcases hc with rfl | rfl | rfl | rfl | rfl | rfl | rfl | rfl
  · exact w_c0
  · exact w_c1
  · exact w_c2
  · exact w_c3
  · exact w_c4
  · exact w_c5
  · exact w_c6
  · exact w_c7
set_option maxRecDepth 65536 in
theorem w_t1 : (words1.take 24).all (fun c => isCode c || c.before args0 about1) = true := by decide +kernel
set_option maxRecDepth 65536 in
theorem w_t2 : (words1.drop 24).all (fun c => isCode c || c.before args0 about1) = true := by decide +kernel
theorem w_tables : (allAtoms (Jvm.Cond.code x code maxLocals ret :: tables_1)).before args0 about1 = true := by
  rw [allAtoms_all]
  show words1.all (fun c => c.before args0 about1) = true
  refine all_split ?_ w_codes
  rw [← List.take_append_drop 24 words1, List.all_append, w_t1, w_t2]
  rfl
set_option maxRecDepth 65536 in
theorem w_case : (Jvm.Cond.and given_1 narrow_1).before args0 about1 = true := by decide +kernel
theorem w_applies : (headSpec (Jvm.Cond.code x code maxLocals ret :: tables_1) room_1).applies x e0.platform about1 = true :=
  (Spec.applies_iff w_frames).mpr ⟨w_running, w_runnable, w_alone, w_named, w_hears, w_ripe, w_room, w_tables⟩
theorem atStart : AtStart classFile x code maxLocals ret World_1 tables_1 room_1 Calls_1 rest_1 Pre_1 launch0 p0 e0 about1 theMethod args0 below0 :=
  ⟨lists_1, trivial, launch0.admits_env _ _ _, launch0.least_env, fairChoices_fair.cas, fairChoices_fair.clock, w_frames, w_args, w_heap, w_applies, trivial, trivial, w_case⟩
end start1
theorem witness_1 : WitnessClaimed_1 := ⟨start1.p0, start1.e0, start1.about1, start1.theMethod, start1.args0, start1.below0, start1.atStart⟩
end Jvm.Pilot.@@N@@
