import JvmDerived
import JvmDerived.Pilot.@@N@@Statement
import JvmDerived.Pilot.@@N@@Code
set_option linter.unusedVariables false
set_option linter.unusedSimpArgs false
namespace Jvm.GoKit
open Sem ClassFile Op Lib Jvm.Stand Jvm.Free Jvm.LawKit Jvm.RoadKit
/-! The walk as a backward predicate over a small abstract machine: refs count the cells made since the law began. -/
abbrev GCell := (String × List (String × String × Value)) ⊕ (FieldType × List Value)
abbrev ob (C : String) (fs : List (String × String × Value)) : GCell := Sum.inl (C, fs)
abbrev ar (t : FieldType) (vs : List Value) : GCell := Sum.inr (t, vs)
def upV (b : Nat) : Value → Value
  | .ref k => .ref (b + k)
  | .int x => .int x
  | .long x => .long x
  | .float x => .float x
  | .double x => .double x
  | .null => .null
  | .retAddr x => .retAddr x
def upS (b : Nat) : Slot → Slot
  | .val v => .val (upV b v)
  | .unset => .unset
  | .second => .second
theorem cat_up (b : Nat) (v : Value) : (upV b v).category = v.category := by cases v <;> rfl
theorem isRef_up (b : Nat) (v : Value) : (upV b v).isRef = v.isRef := by cases v <;> rfl
def CellOk (Z : State) (a0 : Array Value) (b : Nat) (h : Heap) (a : Addr) : GCell → Prop
  | Sum.inl (C, fs) => Exa Z h a C ∧ (∀ f ∈ fs, Fld Z h a C f.1 f.2.1 (upV b f.2.2) ∧ Laid Z a0 C C f.1 f.2.1 ∧ ∃ t, parseFieldDescriptor f.2.1 = some t) ∧ (fs.map (·.1)).Nodup
  | Sum.inr (ty, vs) => ∃ c : Cell, Arr Z h a c ty ∧ c.slots = (vs.map (upV b)).toArray
def Rel (Z : State) (a0 : Array Value) (b : Nat) (H : List GCell) (h : Heap) : Prop :=
  h.size = b + H.length ∧ ∀ (i : Nat) (mc : GCell), H[i]? = some mc → CellOk Z a0 b h (b + i) mc
section Rels
variable {Z : State} {a0 : Array Value} {b : Nat} {H : List GCell} {h h' : Heap} {a a' : Addr} {sl : Nat} {v : Value} {mc : GCell}
theorem CellOk.ext (E : Ext h h') (K : CellOk Z a0 b h a mc) : CellOk Z a0 b h' a mc := by
  rcases mc with ⟨C, fs⟩ | ⟨ty, vs⟩
  · obtain ⟨k1, k2, k3⟩ := K
    exact ⟨k1.ext E, fun f hf => ⟨(k2 f hf).1.ext E, (k2 f hf).2⟩, k3⟩
  · obtain ⟨c, A, e⟩ := K
    exact ⟨c, A.ext E, e⟩
theorem CellOk.other (W : Wr h h' a sl v) (ne : a' ≠ a) (K : CellOk Z a0 b h a' mc) : CellOk Z a0 b h' a' mc := by
  rcases mc with ⟨C, fs⟩ | ⟨ty, vs⟩
  · obtain ⟨k1, k2, k3⟩ := K
    exact ⟨k1.wr W, fun f hf => ⟨(k2 f hf).1.other W (Or.inl ne), (k2 f hf).2⟩, k3⟩
  · obtain ⟨c, A, e⟩ := K
    exact ⟨c, A.other W ne, e⟩
theorem Rel.nil (h : Heap) : Rel Z a0 h.size [] h := ⟨rfl, fun (i : Nat) mc q => by simp at q⟩
theorem Rel.push (RR : Rel Z a0 b H h) (E : Ext h h') (hs : h'.size = h.size + 1) (K : CellOk Z a0 b h' (b + H.length) mc) : Rel Z a0 b (H ++ [mc]) h' := by
  refine ⟨by rw [hs, RR.1]; simp; omega, fun (i : Nat) mc' q => ?_⟩
  rw [List.getElem?_append] at q
  split at q
  · exact (RR.2 i mc' q).ext E
  · rename_i hi
    have e : i = H.length := by
      by_cases e : i - H.length = 0
      · omega
      · rw [List.getElem?_eq_none (by simp; omega)] at q; cases q
    subst e
    simp at q
    exact q ▸ K
theorem Rel.wr (RR : Rel Z a0 b H h) {i : Nat} (W : Wr h h' (b + i) sl v) (K : CellOk Z a0 b h' (b + i) mc) : Rel Z a0 b (H.set i mc) h' := by
  refine ⟨by rw [W.size, RR.1]; simp, fun (j : Nat) mc' q => ?_⟩
  rw [List.getElem?_set] at q
  split at q
  · rename_i e
    subst e
    split at q
    · cases q; exact K
    · cases q
  · rename_i e
    exact (RR.2 j mc' q).other W (fun z => e (Nat.add_left_cancel z).symm)
theorem mem_setF {n d : String} {o : Value} : ∀ (fs : List (String × String × Value)) (j : Nat), (fs.map (·.1)).Nodup → fs[j]? = some (n, d, o) → ∀ f ∈ fs.set j (n, d, v), f = (n, d, v) ∨ (f ∈ fs ∧ f.1 ≠ n)
  | [], _, _, q, _, _ => by simp at q
  | g :: gs, 0, nd, q, f, hf => by
    simp only [List.getElem?_cons_zero, Option.some.injEq] at q
    subst q
    simp only [List.map_cons, List.nodup_cons] at nd
    simp only [List.set_cons_zero, List.mem_cons] at hf
    rcases hf with rfl | hf
    · exact Or.inl rfl
    · refine Or.inr ⟨List.mem_cons_of_mem _ hf, fun e => nd.1 ?_⟩
      exact List.mem_map.mpr ⟨f, hf, e⟩
  | g :: gs, j + 1, nd, q, f, hf => by
    simp only [List.getElem?_cons_succ] at q
    simp only [List.map_cons, List.nodup_cons] at nd
    simp only [List.set_cons_succ, List.mem_cons] at hf
    rcases hf with rfl | hf
    · refine Or.inr ⟨List.mem_cons_self .., fun e => nd.1 ?_⟩
      exact List.mem_map.mpr ⟨_, List.mem_of_getElem? q, e.symm⟩
    · rcases mem_setF gs j nd.2 q f hf with e | ⟨e1, e2⟩
      · exact Or.inl e
      · exact Or.inr ⟨List.mem_cons_of_mem _ e1, e2⟩
theorem map_setF {n d : String} {o : Value} : ∀ (fs : List (String × String × Value)) (j : Nat), fs[j]? = some (n, d, o) → (fs.set j (n, d, v)).map (·.1) = fs.map (·.1)
  | [], _, q => by simp at q
  | g :: gs, 0, q => by
    simp only [List.getElem?_cons_zero, Option.some.injEq] at q
    subst q; rfl
  | g :: gs, j + 1, q => by
    simp only [List.getElem?_cons_succ] at q
    simp only [List.set_cons_succ, List.map_cons, map_setF gs j q]
theorem CellOk.fset {C n d : String} {fs : List (String × String × Value)} {j : Nat} {o : Value} (K : CellOk Z a0 b h a (ob C fs)) (q : fs[j]? = some (n, d, o)) (W : Wr h h' a (Jvm.RoadKit.slotOf Z C n d) (upV b v)) : CellOk Z a0 b h' a (ob C (fs.set j (n, d, v))) := by
  obtain ⟨k1, k2, k3⟩ := K
  have m0 := List.mem_of_getElem? q
  obtain ⟨F, L, t, ht⟩ := k2 _ m0
  refine ⟨k1.wr W, fun f hf => ?_, by rw [map_setF fs j q]; exact k3⟩
  rcases mem_setF fs j k3 q f hf with rfl | ⟨e1, e2⟩
  · exact ⟨F.same W, L, t, ht⟩
  · obtain ⟨F', L', t', ht'⟩ := k2 _ e1
    exact ⟨F'.other W (Or.inr (slot_ne L' L e2 ht' ht)), L', t', ht'⟩
end Rels
theorem ne_oa {H : List GCell} {i j : Nat} {C : String} {fs : List (String × String × Value)} {t : FieldType} {vs : List Value} (h1 : H[i]? = some (ob C fs)) (h2 : H[j]? = some (ar t vs)) : i ≠ j := fun e => by subst e; rw [h1] at h2; cases h2
theorem get_ne {H : List GCell} {i j : Nat} {m m' : GCell} (h : H[j]? = some m) (ne : i ≠ j) : (H.set i m')[j]? = some m := by rw [List.getElem?_set_ne ne]; exact h
theorem get_eq {H : List GCell} {i : Nat} {m m' : GCell} (h : H[i]? = some m) : (H.set i m')[i]? = some m' := by
  have := (List.getElem?_eq_some_iff.mp h).1
  simp [this]
theorem get_app {H H2 : List GCell} {i : Nat} {m : GCell} (h : H[i]? = some m) : (H ++ H2)[i]? = some m := by
  have := (List.getElem?_eq_some_iff.mp h).1
  rw [List.getElem?_append_left this]; exact h
theorem get_last {H : List GCell} {m : GCell} : (H ++ [m])[H.length]? = some m := by simp
theorem set_same {α : Type} {l : List α} {k : Nat} {v : α} (h : l[k]? = some v) : l.set k v = l := by
  apply List.ext_getElem?
  intro j
  rw [List.getElem?_set]
  split
  · rename_i e; subst e
    obtain ⟨h1, h2⟩ := List.getElem?_eq_some_iff.mp h
    rw [if_pos h1, h]
  · rfl
def Dc (bytes : ByteArray) (pc : Nat) (i : Instr) (n nx : Nat) : Prop := decode bytes pc = .ok (i, n) ∧ pc + n = nx
theorem wd {W : List Jvm.Cond} {d : Jvm.Cond} (k : Nat) (h : W[k]? = some d) : d ∈ W := List.mem_of_getElem? h
def QQ (Z : State) (a0 : Array Value) (b : Nat) (Post : Option Value → List GCell → Prop) (v : Option Value) (h : Heap) (LL : List Loc) : Prop :=
  Fr b LL ∧ ∃ v' H', v = Option.map (upV b) v' ∧ Rel Z a0 b H' h ∧ Post v' H'
/-- a method's contract over the abstract machine -/
def Met (l : Launch) (Z : State) (a0 : Array Value) (b : Nat) (y : MethodName) (bytes : ByteArray) (maxL : Nat) (ret : Option FieldType) (rm : Room) (as : List Value) (H : List GCell) (Post : Option Value → List GCell → Prop) : Prop :=
  ∀ h, Rel Z a0 b H h → ∀ ws, MetFree l y (head1 (Jvm.Cond.code y bytes maxL ret :: ws) rm) (fun a U => a = (as.map (upV b)).toArray ∧ Z.Warmed39 U.vm ∧ U.heap = h) (fun _ _ _ _ _ => True)
    (fun _ U o U' => ∃ v LL, o = .returned v ∧ QQ Z a0 b Post v U'.heap LL ∧ FrameEnd U o U' LL rm.cells rm.slots)
/-- where a body is walked -/
def Cx (p : Program) (l : Launch) (e : Env) (R : Room) (s : State) (m : MethodId) (args : Array Value) (below : List Frame) (meth : Method) (c : Code) (Z : State) (a0 : Array Value) (W : List Jvm.Cond) (b : Nat) (y : MethodName) (bytes : ByteArray) (nL : Nat) (ret : Option FieldType) (Post : Option Value → List GCell → Prop) : Prop :=
  p.tables.exec = Jvm.exec ∧ Z.Warmed39 s.vm ∧ s.vm.findClass y.cls = some m.cls ∧ c.code = bytes ∧ c.maxLocals = nL ∧ meth.sig.returnType = ret ∧ meth.locks = false ∧ meth.name = y.name ∧ (∀ d ∈ W, d.before a0 Z = true)
section Walk
variable {p : Program} {l : Launch} {e : Env} {R : Room} {s : State} {m : MethodId} {args : Array Value} {below : List Frame} {meth : Method} {c : Code} {Z : State} {a0 : Array Value} {W : List Jvm.Cond} {b : Nat} {y : MethodName} {bytes : ByteArray} {nL : Nat} {ret : Option FieldType} {Post : Option Value → List GCell → Prop}
theorem Cx.exec (C : Cx p l e R s m args below meth c Z a0 W b y bytes nL ret Post) : p.tables.exec = Jvm.exec := C.1
theorem Cx.warm (C : Cx p l e R s m args below meth c Z a0 W b y bytes nL ret Post) : Z.Warmed39 s.vm := C.2.1
theorem Cx.own (C : Cx p l e R s m args below meth c Z a0 W b y bytes nL ret Post) : s.vm.findClass y.cls = some m.cls := C.2.2.1
theorem Cx.bys (C : Cx p l e R s m args below meth c Z a0 W b y bytes nL ret Post) : c.code = bytes := C.2.2.2.1
theorem Cx.ml (C : Cx p l e R s m args below meth c Z a0 W b y bytes nL ret Post) : c.maxLocals = nL := C.2.2.2.2.1
theorem Cx.rets (C : Cx p l e R s m args below meth c Z a0 W b y bytes nL ret Post) : meth.sig.returnType = ret := C.2.2.2.2.2.1
theorem Cx.nolock (C : Cx p l e R s m args below meth c Z a0 W b y bytes nL ret Post) : meth.locks = false := C.2.2.2.2.2.2.1
theorem Cx.named (C : Cx p l e R s m args below meth c Z a0 W b y bytes nL ret Post) : meth.name = y.name := C.2.2.2.2.2.2.2.1
theorem Cx.hw (C : Cx p l e R s m args below meth c Z a0 W b y bytes nL ret Post) : ∀ d ∈ W, d.before a0 Z = true := C.2.2.2.2.2.2.2.2
abbrev frm (b : Nat) (m : MethodId) (pc : Nat) (L : List Slot) (S : List Value) : JFrame := mkF m pc (L.map (upS b)).toArray (S.map (upV b))
def Ends (p : Program) (e : Env) (s : State) (R : Room) (b : Nat) (Z : State) (a0 : Array Value) (Post : Option Value → List GCell → Prop) (below : List Frame) (A : State) : Prop :=
  ∃ s₂ o, Steps p.tables e below A s₂ ∧ s₂.status = .running ∧ Ended s₂ below o ∧ ∃ v LL, o = .returned v ∧ QQ Z a0 b Post v s₂.heap LL ∧ FrameEnd s o s₂ LL R.cells R.slots
/-- from here the body returns, and Post holds of what it returns and of the heap -/
def Go (C : Cx p l e R s m args below meth c Z a0 W b y bytes nL ret Post) (pc : Nat) (L : List Slot) (S : List Value) (H : List GCell) (cells slots : Nat) : Prop :=
  ∀ T locs, Stand p l e R s m args below meth c T locs cells slots → Fr b locs → Rel Z a0 b H T.heap → Ends p e s R b Z a0 Post below (T.setTop (frm b m pc L S))
variable {C : Cx p l e R s m args below meth c Z a0 W b y bytes nL ret Post} {pc nx tg : Nat} {L L' : List Slot} {S S' : List Value} {H H' : List GCell} {cells slots : Nat}
theorem Ends.back {A B : State} (st : ∀ t, Steps p.tables e below B t → Steps p.tables e below A t) (h : Ends p e s R b Z a0 Post below B) : Ends p e s R b Z a0 Post below A := by
  obtain ⟨s₂, o, hs, hr⟩ := h
  exact ⟨s₂, o, st _ hs, hr⟩
theorem Go.more {cells' slots' : Nat} (h : Go C pc L S H cells' slots') (hc : cells ≤ cells') (hs : slots ≤ slots') : Go C pc L S H cells slots :=
  fun T locs X N RR => h T locs (X.more hc hs) N RR
theorem go_pure (st : ∀ (T : State) locs cells slots, Stand p l e R s m args below meth c T locs cells slots → ∀ t, Steps p.tables e below (T.setTop (frm b m nx L' S')) t → Steps p.tables e below (T.setTop (frm b m pc L S)) t) (h : Go C nx L' S' H cells slots) : Go C pc L S H cells slots :=
  fun T locs X N RR => (h T locs X N RR).back (st T locs _ _ X)
/-- a boolean reckoned by branches: the ways come together at pc' -/
theorem go_cut {pc' : Nat} {P : Int32 → Prop} (h1 : (∀ mb, P mb → Go C pc' L (.int mb :: S) H cells slots) → Go C pc L S H cells slots) (h2 : ∀ mb, P mb → Go C pc' L (.int mb :: S) H cells slots) : Go C pc L S H cells slots := h1 h2
theorem getL {k : Nat} {o : Slot} (h : L[k]? = some o) : (L.map (upS b)).toArray[k]? = some (upS b o) := by simp [h]
theorem go_iload {k : Nat} {x : Int32} (hd : Dc bytes pc (.iload k) 2 nx) (hl : L[k]? = some (.val (.int x))) (h : Go C nx L (.int x :: S) H cells slots) : Go C pc L S H cells slots :=
  go_pure (fun T _ _ _ X t k => by obtain ⟨hd, rfl⟩ := hd; exact XS.iload X.here C.exec rfl (hb C.bys hd) (getL hl) k) h
theorem go_iloadN {k : Fin 4} {x : Int32} (hd : Dc bytes pc (.iload_n k) 1 nx) (hl : L[k.val]? = some (.val (.int x))) (h : Go C nx L (.int x :: S) H cells slots) : Go C pc L S H cells slots :=
  go_pure (fun T _ _ _ X t k => by obtain ⟨hd, rfl⟩ := hd; exact XS.iloadN X.here C.exec rfl (hb C.bys hd) (getL hl) k) h
theorem go_lload {k : Nat} {x : Int64} (hd : Dc bytes pc (.lload k) 2 nx) (hl : L[k]? = some (.val (.long x))) (h : Go C nx L (.long x :: S) H cells slots) : Go C pc L S H cells slots :=
  go_pure (fun T _ _ _ X t k => by obtain ⟨hd, rfl⟩ := hd; exact XT.lload X.here C.exec rfl (hb C.bys hd) (getL hl) k) h
theorem go_lloadN {k : Fin 4} {x : Int64} (hd : Dc bytes pc (.lload_n k) 1 nx) (hl : L[k.val]? = some (.val (.long x))) (h : Go C nx L (.long x :: S) H cells slots) : Go C pc L S H cells slots :=
  go_pure (fun T _ _ _ X t k => by obtain ⟨hd, rfl⟩ := hd; exact XT.lloadN X.here C.exec rfl (hb C.bys hd) (getL hl) k) h
theorem go_aload {k : Nat} {x : Value} (hd : Dc bytes pc (.aload k) 2 nx) (hl : L[k]? = some (.val x)) (hr : x.isRef = true) (h : Go C nx L (x :: S) H cells slots) : Go C pc L S H cells slots :=
  go_pure (fun T _ _ _ X t k => by obtain ⟨hd, rfl⟩ := hd; exact XS.aload X.here C.exec rfl (hb C.bys hd) (getL hl) ((isRef_up b x).trans hr) k) h
theorem go_aloadN {k : Fin 4} {x : Value} (hd : Dc bytes pc (.aload_n k) 1 nx) (hl : L[k.val]? = some (.val x)) (hr : x.isRef = true) (h : Go C nx L (x :: S) H cells slots) : Go C pc L S H cells slots :=
  go_pure (fun T _ _ _ X t k => by obtain ⟨hd, rfl⟩ := hd; exact XS.aloadN X.here C.exec rfl (hb C.bys hd) (getL hl) ((isRef_up b x).trans hr) k) h
theorem go_iconst {i : Int} {x : Int32} (hd : Dc bytes pc (.iconst i) 1 nx) (hv : Int32.ofInt i = x) (h : Go C nx L (.int x :: S) H cells slots) : Go C pc L S H cells slots :=
  go_pure (fun T _ _ _ X t k => by obtain ⟨hd, rfl⟩ := hd; subst hv; exact XS.iconst X.here C.exec rfl (hb C.bys hd) k) h
theorem go_bipush {i : Int} {x : Int32} (hd : Dc bytes pc (.bipush i) 2 nx) (hv : (Int8.ofInt i).toInt32 = x) (h : Go C nx L (.int x :: S) H cells slots) : Go C pc L S H cells slots :=
  go_pure (fun T _ _ _ X t k => by obtain ⟨hd, rfl⟩ := hd; subst hv; exact XS.bipush X.here C.exec rfl (hb C.bys hd) k) h
theorem go_sipush {i : Int} {x : Int32} (hd : Dc bytes pc (.sipush i) 3 nx) (hv : (Int16.ofInt i).toInt32 = x) (h : Go C nx L (.int x :: S) H cells slots) : Go C pc L S H cells slots :=
  go_pure (fun T _ _ _ X t k => by obtain ⟨hd, rfl⟩ := hd; subst hv; exact XS.sipush X.here C.exec rfl (hb C.bys hd) k) h
theorem go_lconst {i : Fin 2} {x : Int64} (hd : Dc bytes pc (.lconst i) 1 nx) (hv : Int64.ofNat i = x) (h : Go C nx L (.long x :: S) H cells slots) : Go C pc L S H cells slots :=
  go_pure (fun T _ _ _ X t k => by obtain ⟨hd, rfl⟩ := hd; subst hv; exact XT.lconst X.here C.exec rfl (hb C.bys hd) k) h
theorem go_null (hd : Dc bytes pc .aconst_null 1 nx) (h : Go C nx L (.null :: S) H cells slots) : Go C pc L S H cells slots :=
  go_pure (fun T _ _ _ X t k => by obtain ⟨hd, rfl⟩ := hd; exact XS.aconstNull X.here C.exec rfl (hb C.bys hd) k) h
theorem go_ldc {i : Nat} {x : Int32} (hd : Dc bytes pc (.ldc i) 2 nx) (w : Jvm.Cond.constant y.cls i x ∈ W) (h : Go C nx L (.int x :: S) H cells slots) : Go C pc L S H cells slots :=
  go_pure (fun T _ _ _ X t k => by obtain ⟨hd, rfl⟩ := hd; exact X.ldcInt C.exec C.own (mvT C.warm (C.hw _ w)) (g := frm b m pc L S) rfl (hb C.bys hd) _ k) h
theorem go_ldc2 {i : Nat} {x : Int64} (hd : Dc bytes pc (.ldc2_w i) 3 nx) (w : Jvm.Cond.constantLong y.cls i x ∈ W) (h : Go C nx L (.long x :: S) H cells slots) : Go C pc L S H cells slots :=
  go_pure (fun T _ _ _ X t k => by obtain ⟨hd, rfl⟩ := hd; exact X.ldc2Long C.exec C.own (mvT C.warm (C.hw _ w)) (g := frm b m pc L S) rfl (hb C.bys hd) _ k) h
theorem go_iadd {x : Int32} {z : Int32} (hd : Dc bytes pc .iadd 1 nx) (h : Go C nx L (.int (x + z) :: S) H cells slots) : Go C pc L (.int z :: .int x :: S) H cells slots :=
  go_pure (fun T _ _ _ X t k => by obtain ⟨hd, rfl⟩ := hd; exact XS.iadd X.here C.exec rfl (hb C.bys hd) rfl k) h
theorem go_ladd {x : Int64} {z : Int64} (hd : Dc bytes pc .ladd 1 nx) (h : Go C nx L (.long (x + z) :: S) H cells slots) : Go C pc L (.long z :: .long x :: S) H cells slots :=
  go_pure (fun T _ _ _ X t k => by obtain ⟨hd, rfl⟩ := hd; exact XT.ladd X.here C.exec rfl (hb C.bys hd) rfl k) h
theorem go_isub {x : Int32} {z : Int32} (hd : Dc bytes pc .isub 1 nx) (h : Go C nx L (.int (x - z) :: S) H cells slots) : Go C pc L (.int z :: .int x :: S) H cells slots :=
  go_pure (fun T _ _ _ X t k => by obtain ⟨hd, rfl⟩ := hd; exact XS.isub X.here C.exec rfl (hb C.bys hd) rfl k) h
theorem go_lsub {x : Int64} {z : Int64} (hd : Dc bytes pc .lsub 1 nx) (h : Go C nx L (.long (x - z) :: S) H cells slots) : Go C pc L (.long z :: .long x :: S) H cells slots :=
  go_pure (fun T _ _ _ X t k => by obtain ⟨hd, rfl⟩ := hd; exact XT.lsub X.here C.exec rfl (hb C.bys hd) rfl k) h
theorem go_imul {x : Int32} {z : Int32} (hd : Dc bytes pc .imul 1 nx) (h : Go C nx L (.int (x * z) :: S) H cells slots) : Go C pc L (.int z :: .int x :: S) H cells slots :=
  go_pure (fun T _ _ _ X t k => by obtain ⟨hd, rfl⟩ := hd; exact XS.imul X.here C.exec rfl (hb C.bys hd) rfl k) h
theorem go_lmul {x : Int64} {z : Int64} (hd : Dc bytes pc .lmul 1 nx) (h : Go C nx L (.long (x * z) :: S) H cells slots) : Go C pc L (.long z :: .long x :: S) H cells slots :=
  go_pure (fun T _ _ _ X t k => by obtain ⟨hd, rfl⟩ := hd; exact XT.lmul X.here C.exec rfl (hb C.bys hd) rfl k) h
theorem go_iand {x : Int32} {z : Int32} (hd : Dc bytes pc .iand 1 nx) (h : Go C nx L (.int (x &&& z) :: S) H cells slots) : Go C pc L (.int z :: .int x :: S) H cells slots :=
  go_pure (fun T _ _ _ X t k => by obtain ⟨hd, rfl⟩ := hd; exact XS.iand X.here C.exec rfl (hb C.bys hd) rfl k) h
theorem go_land {x : Int64} {z : Int64} (hd : Dc bytes pc .land 1 nx) (h : Go C nx L (.long (x &&& z) :: S) H cells slots) : Go C pc L (.long z :: .long x :: S) H cells slots :=
  go_pure (fun T _ _ _ X t k => by obtain ⟨hd, rfl⟩ := hd; exact XT.land X.here C.exec rfl (hb C.bys hd) rfl k) h
theorem go_ior {x : Int32} {z : Int32} (hd : Dc bytes pc .ior 1 nx) (h : Go C nx L (.int (x ||| z) :: S) H cells slots) : Go C pc L (.int z :: .int x :: S) H cells slots :=
  go_pure (fun T _ _ _ X t k => by obtain ⟨hd, rfl⟩ := hd; exact XT.ior X.here C.exec rfl (hb C.bys hd) rfl k) h
theorem go_lor {x : Int64} {z : Int64} (hd : Dc bytes pc .lor 1 nx) (h : Go C nx L (.long (x ||| z) :: S) H cells slots) : Go C pc L (.long z :: .long x :: S) H cells slots :=
  go_pure (fun T _ _ _ X t k => by obtain ⟨hd, rfl⟩ := hd; exact XT.lor X.here C.exec rfl (hb C.bys hd) rfl k) h
theorem go_ixor {x : Int32} {z : Int32} (hd : Dc bytes pc .ixor 1 nx) (h : Go C nx L (.int (x ^^^ z) :: S) H cells slots) : Go C pc L (.int z :: .int x :: S) H cells slots :=
  go_pure (fun T _ _ _ X t k => by obtain ⟨hd, rfl⟩ := hd; exact XT.ixor X.here C.exec rfl (hb C.bys hd) rfl k) h
theorem go_lxor {x : Int64} {z : Int64} (hd : Dc bytes pc .lxor 1 nx) (h : Go C nx L (.long (x ^^^ z) :: S) H cells slots) : Go C pc L (.long z :: .long x :: S) H cells slots :=
  go_pure (fun T _ _ _ X t k => by obtain ⟨hd, rfl⟩ := hd; exact XT.lxor X.here C.exec rfl (hb C.bys hd) rfl k) h
theorem go_ishl {x : Int32} {z : Int32} (hd : Dc bytes pc .ishl 1 nx) (h : Go C nx L (.int (x <<< (z &&& 31)) :: S) H cells slots) : Go C pc L (.int z :: .int x :: S) H cells slots :=
  go_pure (fun T _ _ _ X t k => by obtain ⟨hd, rfl⟩ := hd; exact XT.ishl X.here C.exec rfl (hb C.bys hd) rfl k) h
theorem go_ishr {x : Int32} {z : Int32} (hd : Dc bytes pc .ishr 1 nx) (h : Go C nx L (.int (x >>> (z &&& 31)) :: S) H cells slots) : Go C pc L (.int z :: .int x :: S) H cells slots :=
  go_pure (fun T _ _ _ X t k => by obtain ⟨hd, rfl⟩ := hd; exact XT.ishr X.here C.exec rfl (hb C.bys hd) rfl k) h
theorem go_iushr {x : Int32} {z : Int32} (hd : Dc bytes pc .iushr 1 nx) (h : Go C nx L (.int (XT.ushr x z) :: S) H cells slots) : Go C pc L (.int z :: .int x :: S) H cells slots :=
  go_pure (fun T _ _ _ X t k => by obtain ⟨hd, rfl⟩ := hd; exact XT.iushr X.here C.exec rfl (hb C.bys hd) rfl k) h
theorem go_lshl {x : Int64} {z : Int32} (hd : Dc bytes pc .lshl 1 nx) (h : Go C nx L (.long (x <<< (z.toInt64 &&& 63)) :: S) H cells slots) : Go C pc L (.int z :: .long x :: S) H cells slots :=
  go_pure (fun T _ _ _ X t k => by obtain ⟨hd, rfl⟩ := hd; exact XT.lshl X.here C.exec rfl (hb C.bys hd) rfl k) h
theorem go_lshr {x : Int64} {z : Int32} (hd : Dc bytes pc .lshr 1 nx) (h : Go C nx L (.long (x >>> (z.toInt64 &&& 63)) :: S) H cells slots) : Go C pc L (.int z :: .long x :: S) H cells slots :=
  go_pure (fun T _ _ _ X t k => by obtain ⟨hd, rfl⟩ := hd; exact XT.lshr X.here C.exec rfl (hb C.bys hd) rfl k) h
theorem go_lushr {x : Int64} {z : Int32} (hd : Dc bytes pc .lushr 1 nx) (h : Go C nx L (.long (XT.ushrL x z) :: S) H cells slots) : Go C pc L (.int z :: .long x :: S) H cells slots :=
  go_pure (fun T _ _ _ X t k => by obtain ⟨hd, rfl⟩ := hd; exact XT.lushr X.here C.exec rfl (hb C.bys hd) rfl k) h
theorem go_ineg {x : Int32} (hd : Dc bytes pc .ineg 1 nx) (h : Go C nx L (.int (-x) :: S) H cells slots) : Go C pc L (.int x :: S) H cells slots :=
  go_pure (fun T _ _ _ X t k => by obtain ⟨hd, rfl⟩ := hd; exact XS.ineg X.here C.exec rfl (hb C.bys hd) rfl k) h
theorem go_lneg {x : Int64} (hd : Dc bytes pc .lneg 1 nx) (h : Go C nx L (.long (-x) :: S) H cells slots) : Go C pc L (.long x :: S) H cells slots :=
  go_pure (fun T _ _ _ X t k => by obtain ⟨hd, rfl⟩ := hd; exact XT.lneg X.here C.exec rfl (hb C.bys hd) rfl k) h
theorem go_i2l {x : Int32} (hd : Dc bytes pc .i2l 1 nx) (h : Go C nx L (.long (x.toInt64) :: S) H cells slots) : Go C pc L (.int x :: S) H cells slots :=
  go_pure (fun T _ _ _ X t k => by obtain ⟨hd, rfl⟩ := hd; exact XT.i2l X.here C.exec rfl (hb C.bys hd) rfl k) h
theorem go_l2i {x : Int64} (hd : Dc bytes pc .l2i 1 nx) (h : Go C nx L (.int (x.toInt32) :: S) H cells slots) : Go C pc L (.long x :: S) H cells slots :=
  go_pure (fun T _ _ _ X t k => by obtain ⟨hd, rfl⟩ := hd; exact XT.l2i X.here C.exec rfl (hb C.bys hd) rfl k) h
theorem go_i2b {x : Int32} (hd : Dc bytes pc .i2b 1 nx) (h : Go C nx L (.int (x.toInt8.toInt32) :: S) H cells slots) : Go C pc L (.int x :: S) H cells slots :=
  go_pure (fun T _ _ _ X t k => by obtain ⟨hd, rfl⟩ := hd; exact XT.i2b X.here C.exec rfl (hb C.bys hd) rfl k) h
theorem go_i2c {x : Int32} (hd : Dc bytes pc .i2c 1 nx) (h : Go C nx L (.int (x.toUInt32.toUInt16.toUInt32.toInt32) :: S) H cells slots) : Go C pc L (.int x :: S) H cells slots :=
  go_pure (fun T _ _ _ X t k => by obtain ⟨hd, rfl⟩ := hd; exact XT.i2c X.here C.exec rfl (hb C.bys hd) rfl k) h
theorem go_i2s {x : Int32} (hd : Dc bytes pc .i2s 1 nx) (h : Go C nx L (.int (x.toInt16.toInt32) :: S) H cells slots) : Go C pc L (.int x :: S) H cells slots :=
  go_pure (fun T _ _ _ X t k => by obtain ⟨hd, rfl⟩ := hd; exact XT.i2s X.here C.exec rfl (hb C.bys hd) rfl k) h
theorem go_idiv {x z : Int32} (hd : Dc bytes pc .idiv 1 nx) (hz : z ≠ 0) (h : Go C nx L (.int (x / z) :: S) H cells slots) : Go C pc L (.int z :: .int x :: S) H cells slots :=
  go_pure (fun T _ _ _ X t k => by obtain ⟨hd, rfl⟩ := hd; exact XS.idiv X.here C.exec rfl (hb C.bys hd) rfl hz k) h
theorem go_irem {x z : Int32} (hd : Dc bytes pc .irem 1 nx) (hz : z ≠ 0) (h : Go C nx L (.int (x % z) :: S) H cells slots) : Go C pc L (.int z :: .int x :: S) H cells slots :=
  go_pure (fun T _ _ _ X t k => by obtain ⟨hd, rfl⟩ := hd; exact iremM X C.exec rfl (hb C.bys hd) rfl hz k) h
theorem go_dup {v : Value} (hd : Dc bytes pc .dup 1 nx) (hc : v.category = 1) (h : Go C nx L (v :: v :: S) H cells slots) : Go C pc L (v :: S) H cells slots :=
  go_pure (fun T _ _ _ X t k => by obtain ⟨hd, rfl⟩ := hd; exact XS.dup X.here C.exec rfl (hb C.bys hd) rfl ((cat_up b v).trans hc) k) h
theorem go_dupX1 {v w : Value} (hd : Dc bytes pc .dup_x1 1 nx) (hc : v.category = 1) (hc' : w.category = 1) (h : Go C nx L (v :: w :: v :: S) H cells slots) : Go C pc L (v :: w :: S) H cells slots :=
  go_pure (fun T _ _ _ X t k => by obtain ⟨hd, rfl⟩ := hd; exact XT.dupX1 X.here C.exec rfl (hb C.bys hd) rfl ((cat_up b v).trans hc) ((cat_up b w).trans hc') k) h
theorem go_dup2 {v w : Value} (hd : Dc bytes pc .dup2 1 nx) (hc : v.category = 1) (hc' : w.category = 1) (h : Go C nx L (v :: w :: v :: w :: S) H cells slots) : Go C pc L (v :: w :: S) H cells slots :=
  go_pure (fun T _ _ _ X t k => by obtain ⟨hd, rfl⟩ := hd; exact XT.dup2 X.here C.exec rfl (hb C.bys hd) rfl ((cat_up b v).trans hc) ((cat_up b w).trans hc') k) h
theorem go_dup2L {x : Int64} (hd : Dc bytes pc .dup2 1 nx) (h : Go C nx L (.long x :: .long x :: S) H cells slots) : Go C pc L (.long x :: S) H cells slots :=
  go_pure (fun T _ _ _ X t k => by obtain ⟨hd, rfl⟩ := hd; exact XT.dup2L X.here C.exec rfl (hb C.bys hd) rfl k) h
theorem go_pop {v : Value} (hd : Dc bytes pc .pop 1 nx) (hc : v.category = 1) (h : Go C nx L S H cells slots) : Go C pc L (v :: S) H cells slots :=
  go_pure (fun T _ _ _ X t k => by obtain ⟨hd, rfl⟩ := hd; exact XT.pop X.here C.exec rfl (hb C.bys hd) rfl ((cat_up b v).trans hc) k) h
theorem go_goto {o : Int} (hd : Dc bytes pc (.goto o) 3 nx) (ht : (pc : Int) + o = (tg : Nat)) (h : Go C tg L S H cells slots) : Go C pc L S H cells slots :=
  go_pure (fun T _ _ _ X t k => XS.goto X.here C.exec rfl (pc0 := pc) (pc' := tg) rfl (hb C.bys hd.1) (by omega) (by omega) k) h
theorem go_icmp {cd : ClassFile.Cond} {o : Int} {x z : Int32} (hd : Dc bytes pc (.if_icmp cd o) 3 nx) (ht : (pc : Int) + o = (tg : Nat)) (h1 : if_icmp.holds cd x z = true → Go C tg L S H cells slots) (h2 : if_icmp.holds cd x z = false → Go C nx L S H cells slots) : Go C pc L (.int z :: .int x :: S) H cells slots := by
  cases q : if_icmp.holds cd x z
  · exact go_pure (fun T _ _ _ X t k => by obtain ⟨hd, rfl⟩ := hd; exact XS.icmpNo X.here C.exec rfl (hb C.bys hd) rfl q k) (h2 q)
  · exact go_pure (fun T _ _ _ X t k => XS.icmpYes X.here C.exec rfl (pc0 := pc) (pc' := tg) rfl (hb C.bys hd.1) rfl q (by omega) (by omega) k) (h1 q)
theorem go_if {cd : ClassFile.Cond} {o : Int} {x : Int32} (hd : Dc bytes pc (.ifCond cd o) 3 nx) (ht : (pc : Int) + o = (tg : Nat)) (h1 : if_icmp.holds cd x 0 = true → Go C tg L S H cells slots) (h2 : if_icmp.holds cd x 0 = false → Go C nx L S H cells slots) : Go C pc L (.int x :: S) H cells slots := by
  cases q : if_icmp.holds cd x 0
  · exact go_pure (fun T _ _ _ X t k => by obtain ⟨hd, rfl⟩ := hd; exact XS.ifNo X.here C.exec rfl (hb C.bys hd) rfl ((if0 _ _).trans q) k) (h2 q)
  · exact go_pure (fun T _ _ _ X t k => XS.ifYes X.here C.exec rfl (pc0 := pc) (pc' := tg) rfl (hb C.bys hd.1) rfl ((if0 _ _).trans q) (by omega) (by omega) k) (h1 q)
theorem h_eq {x z : Int32} {B : Bool} (q : if_icmp.holds .eq x z = B) : B = true ↔ x = z := by subst q; simp [if_icmp.holds]
theorem h_ne {x z : Int32} {B : Bool} (q : if_icmp.holds .ne x z = B) : B = true ↔ ¬ x = z := by subst q; simp [if_icmp.holds]
theorem h_lt {x z : Int32} {B : Bool} (q : if_icmp.holds .lt x z = B) : B = true ↔ x.toInt < z.toInt := by subst q; simp [if_icmp.holds, Int32.lt_iff_toInt_lt]
theorem h_ge {x z : Int32} {B : Bool} (q : if_icmp.holds .ge x z = B) : B = true ↔ z.toInt ≤ x.toInt := by subst q; simp [if_icmp.holds, Int32.le_iff_toInt_le]
theorem h_gt {x z : Int32} {B : Bool} (q : if_icmp.holds .gt x z = B) : B = true ↔ z.toInt < x.toInt := by subst q; simp [if_icmp.holds, Int32.lt_iff_toInt_lt]
theorem h_le {x z : Int32} {B : Bool} (q : if_icmp.holds .le x z = B) : B = true ↔ x.toInt ≤ z.toInt := by subst q; simp [if_icmp.holds, Int32.le_iff_toInt_le]
theorem go_iceq {o : Int} {x z : Int32} (hd : Dc bytes pc (.if_icmp .eq o) 3 nx) (ht : (pc : Int) + o = (tg : Nat)) (h1 : x = z → Go C tg L S H cells slots) (h2 : ¬ x = z → Go C nx L S H cells slots) : Go C pc L (.int z :: .int x :: S) H cells slots :=
  go_icmp hd ht (fun q => h1 ((h_eq q).mp rfl)) (fun q => h2 (fun r => Bool.noConfusion ((h_eq q).mpr r)))
theorem go_iceqY {o : Int} {x z : Int32} (hd : Dc bytes pc (.if_icmp .eq o) 3 nx) (ht : (pc : Int) + o = (tg : Nat)) (hc : x = z) (h : Go C tg L S H cells slots) : Go C pc L (.int z :: .int x :: S) H cells slots :=
  go_iceq hd ht (fun _ => h) (fun q => absurd hc (by first | exact q | exact not_not_intro q | omega))
theorem go_iceqN {o : Int} {x z : Int32} (hd : Dc bytes pc (.if_icmp .eq o) 3 nx) (ht : (pc : Int) + o = (tg : Nat)) (hc : ¬ x = z) (h : Go C nx L S H cells slots) : Go C pc L (.int z :: .int x :: S) H cells slots :=
  go_iceq hd ht (fun q => absurd hc (by first | exact q | exact not_not_intro q | omega)) (fun _ => h)
theorem go_ifeq {o : Int} {x : Int32} (hd : Dc bytes pc (.ifCond .eq o) 3 nx) (ht : (pc : Int) + o = (tg : Nat)) (h1 : x = 0 → Go C tg L S H cells slots) (h2 : ¬ x = 0 → Go C nx L S H cells slots) : Go C pc L (.int x :: S) H cells slots :=
  go_if hd ht (fun q => h1 ((h_eq q).mp rfl)) (fun q => h2 (fun r => Bool.noConfusion ((h_eq q).mpr r)))
theorem go_ifeqY {o : Int} {x : Int32} (hd : Dc bytes pc (.ifCond .eq o) 3 nx) (ht : (pc : Int) + o = (tg : Nat)) (hc : x = 0) (h : Go C tg L S H cells slots) : Go C pc L (.int x :: S) H cells slots :=
  go_ifeq hd ht (fun _ => h) (fun q => absurd hc (by first | exact q | exact not_not_intro q | omega))
theorem go_ifeqN {o : Int} {x : Int32} (hd : Dc bytes pc (.ifCond .eq o) 3 nx) (ht : (pc : Int) + o = (tg : Nat)) (hc : ¬ x = 0) (h : Go C nx L S H cells slots) : Go C pc L (.int x :: S) H cells slots :=
  go_ifeq hd ht (fun q => absurd hc (by first | exact q | exact not_not_intro q | omega)) (fun _ => h)
theorem go_icne {o : Int} {x z : Int32} (hd : Dc bytes pc (.if_icmp .ne o) 3 nx) (ht : (pc : Int) + o = (tg : Nat)) (h1 : ¬ x = z → Go C tg L S H cells slots) (h2 : x = z → Go C nx L S H cells slots) : Go C pc L (.int z :: .int x :: S) H cells slots :=
  go_icmp hd ht (fun q => h1 ((h_ne q).mp rfl)) (fun q => h2 (Decidable.not_not.mp fun r => Bool.noConfusion ((h_ne q).mpr r)))
theorem go_icneY {o : Int} {x z : Int32} (hd : Dc bytes pc (.if_icmp .ne o) 3 nx) (ht : (pc : Int) + o = (tg : Nat)) (hc : ¬ x = z) (h : Go C tg L S H cells slots) : Go C pc L (.int z :: .int x :: S) H cells slots :=
  go_icne hd ht (fun _ => h) (fun q => absurd hc (by first | exact q | exact not_not_intro q | omega))
theorem go_icneN {o : Int} {x z : Int32} (hd : Dc bytes pc (.if_icmp .ne o) 3 nx) (ht : (pc : Int) + o = (tg : Nat)) (hc : x = z) (h : Go C nx L S H cells slots) : Go C pc L (.int z :: .int x :: S) H cells slots :=
  go_icne hd ht (fun q => absurd hc (by first | exact q | exact not_not_intro q | omega)) (fun _ => h)
theorem go_ifne {o : Int} {x : Int32} (hd : Dc bytes pc (.ifCond .ne o) 3 nx) (ht : (pc : Int) + o = (tg : Nat)) (h1 : ¬ x = 0 → Go C tg L S H cells slots) (h2 : x = 0 → Go C nx L S H cells slots) : Go C pc L (.int x :: S) H cells slots :=
  go_if hd ht (fun q => h1 ((h_ne q).mp rfl)) (fun q => h2 (Decidable.not_not.mp fun r => Bool.noConfusion ((h_ne q).mpr r)))
theorem go_ifneY {o : Int} {x : Int32} (hd : Dc bytes pc (.ifCond .ne o) 3 nx) (ht : (pc : Int) + o = (tg : Nat)) (hc : ¬ x = 0) (h : Go C tg L S H cells slots) : Go C pc L (.int x :: S) H cells slots :=
  go_ifne hd ht (fun _ => h) (fun q => absurd hc (by first | exact q | exact not_not_intro q | omega))
theorem go_ifneN {o : Int} {x : Int32} (hd : Dc bytes pc (.ifCond .ne o) 3 nx) (ht : (pc : Int) + o = (tg : Nat)) (hc : x = 0) (h : Go C nx L S H cells slots) : Go C pc L (.int x :: S) H cells slots :=
  go_ifne hd ht (fun q => absurd hc (by first | exact q | exact not_not_intro q | omega)) (fun _ => h)
theorem go_iclt {o : Int} {x z : Int32} (hd : Dc bytes pc (.if_icmp .lt o) 3 nx) (ht : (pc : Int) + o = (tg : Nat)) (h1 : x.toInt < z.toInt → Go C tg L S H cells slots) (h2 : z.toInt ≤ x.toInt → Go C nx L S H cells slots) : Go C pc L (.int z :: .int x :: S) H cells slots :=
  go_icmp hd ht (fun q => h1 ((h_lt q).mp rfl)) (fun q => h2 ((by have := mt (h_lt q).mpr (by simp); omega)))
theorem go_icltY {o : Int} {x z : Int32} (hd : Dc bytes pc (.if_icmp .lt o) 3 nx) (ht : (pc : Int) + o = (tg : Nat)) (hc : x.toInt < z.toInt) (h : Go C tg L S H cells slots) : Go C pc L (.int z :: .int x :: S) H cells slots :=
  go_iclt hd ht (fun _ => h) (fun q => absurd hc (by first | exact q | exact not_not_intro q | omega))
theorem go_icltN {o : Int} {x z : Int32} (hd : Dc bytes pc (.if_icmp .lt o) 3 nx) (ht : (pc : Int) + o = (tg : Nat)) (hc : z.toInt ≤ x.toInt) (h : Go C nx L S H cells slots) : Go C pc L (.int z :: .int x :: S) H cells slots :=
  go_iclt hd ht (fun q => absurd hc (by first | exact q | exact not_not_intro q | omega)) (fun _ => h)
theorem go_iflt {o : Int} {x : Int32} (hd : Dc bytes pc (.ifCond .lt o) 3 nx) (ht : (pc : Int) + o = (tg : Nat)) (h1 : x.toInt < 0 → Go C tg L S H cells slots) (h2 : 0 ≤ x.toInt → Go C nx L S H cells slots) : Go C pc L (.int x :: S) H cells slots :=
  go_if hd ht (fun q => h1 ((by have := (h_lt q).mp rfl; simpa using this))) (fun q => h2 ((by have := mt (h_lt q).mpr (by simp); simpa using this)))
theorem go_ifltY {o : Int} {x : Int32} (hd : Dc bytes pc (.ifCond .lt o) 3 nx) (ht : (pc : Int) + o = (tg : Nat)) (hc : x.toInt < 0) (h : Go C tg L S H cells slots) : Go C pc L (.int x :: S) H cells slots :=
  go_iflt hd ht (fun _ => h) (fun q => absurd hc (by first | exact q | exact not_not_intro q | omega))
theorem go_ifltN {o : Int} {x : Int32} (hd : Dc bytes pc (.ifCond .lt o) 3 nx) (ht : (pc : Int) + o = (tg : Nat)) (hc : 0 ≤ x.toInt) (h : Go C nx L S H cells slots) : Go C pc L (.int x :: S) H cells slots :=
  go_iflt hd ht (fun q => absurd hc (by first | exact q | exact not_not_intro q | omega)) (fun _ => h)
theorem go_icge {o : Int} {x z : Int32} (hd : Dc bytes pc (.if_icmp .ge o) 3 nx) (ht : (pc : Int) + o = (tg : Nat)) (h1 : z.toInt ≤ x.toInt → Go C tg L S H cells slots) (h2 : x.toInt < z.toInt → Go C nx L S H cells slots) : Go C pc L (.int z :: .int x :: S) H cells slots :=
  go_icmp hd ht (fun q => h1 ((h_ge q).mp rfl)) (fun q => h2 ((by have := mt (h_ge q).mpr (by simp); omega)))
theorem go_icgeY {o : Int} {x z : Int32} (hd : Dc bytes pc (.if_icmp .ge o) 3 nx) (ht : (pc : Int) + o = (tg : Nat)) (hc : z.toInt ≤ x.toInt) (h : Go C tg L S H cells slots) : Go C pc L (.int z :: .int x :: S) H cells slots :=
  go_icge hd ht (fun _ => h) (fun q => absurd hc (by first | exact q | exact not_not_intro q | omega))
theorem go_icgeN {o : Int} {x z : Int32} (hd : Dc bytes pc (.if_icmp .ge o) 3 nx) (ht : (pc : Int) + o = (tg : Nat)) (hc : x.toInt < z.toInt) (h : Go C nx L S H cells slots) : Go C pc L (.int z :: .int x :: S) H cells slots :=
  go_icge hd ht (fun q => absurd hc (by first | exact q | exact not_not_intro q | omega)) (fun _ => h)
theorem go_ifge {o : Int} {x : Int32} (hd : Dc bytes pc (.ifCond .ge o) 3 nx) (ht : (pc : Int) + o = (tg : Nat)) (h1 : 0 ≤ x.toInt → Go C tg L S H cells slots) (h2 : x.toInt < 0 → Go C nx L S H cells slots) : Go C pc L (.int x :: S) H cells slots :=
  go_if hd ht (fun q => h1 ((by have := (h_ge q).mp rfl; simpa using this))) (fun q => h2 ((by have := mt (h_ge q).mpr (by simp); simpa using this)))
theorem go_ifgeY {o : Int} {x : Int32} (hd : Dc bytes pc (.ifCond .ge o) 3 nx) (ht : (pc : Int) + o = (tg : Nat)) (hc : 0 ≤ x.toInt) (h : Go C tg L S H cells slots) : Go C pc L (.int x :: S) H cells slots :=
  go_ifge hd ht (fun _ => h) (fun q => absurd hc (by first | exact q | exact not_not_intro q | omega))
theorem go_ifgeN {o : Int} {x : Int32} (hd : Dc bytes pc (.ifCond .ge o) 3 nx) (ht : (pc : Int) + o = (tg : Nat)) (hc : x.toInt < 0) (h : Go C nx L S H cells slots) : Go C pc L (.int x :: S) H cells slots :=
  go_ifge hd ht (fun q => absurd hc (by first | exact q | exact not_not_intro q | omega)) (fun _ => h)
theorem go_icgt {o : Int} {x z : Int32} (hd : Dc bytes pc (.if_icmp .gt o) 3 nx) (ht : (pc : Int) + o = (tg : Nat)) (h1 : z.toInt < x.toInt → Go C tg L S H cells slots) (h2 : x.toInt ≤ z.toInt → Go C nx L S H cells slots) : Go C pc L (.int z :: .int x :: S) H cells slots :=
  go_icmp hd ht (fun q => h1 ((h_gt q).mp rfl)) (fun q => h2 ((by have := mt (h_gt q).mpr (by simp); omega)))
theorem go_icgtY {o : Int} {x z : Int32} (hd : Dc bytes pc (.if_icmp .gt o) 3 nx) (ht : (pc : Int) + o = (tg : Nat)) (hc : z.toInt < x.toInt) (h : Go C tg L S H cells slots) : Go C pc L (.int z :: .int x :: S) H cells slots :=
  go_icgt hd ht (fun _ => h) (fun q => absurd hc (by first | exact q | exact not_not_intro q | omega))
theorem go_icgtN {o : Int} {x z : Int32} (hd : Dc bytes pc (.if_icmp .gt o) 3 nx) (ht : (pc : Int) + o = (tg : Nat)) (hc : x.toInt ≤ z.toInt) (h : Go C nx L S H cells slots) : Go C pc L (.int z :: .int x :: S) H cells slots :=
  go_icgt hd ht (fun q => absurd hc (by first | exact q | exact not_not_intro q | omega)) (fun _ => h)
theorem go_ifgt {o : Int} {x : Int32} (hd : Dc bytes pc (.ifCond .gt o) 3 nx) (ht : (pc : Int) + o = (tg : Nat)) (h1 : 0 < x.toInt → Go C tg L S H cells slots) (h2 : x.toInt ≤ 0 → Go C nx L S H cells slots) : Go C pc L (.int x :: S) H cells slots :=
  go_if hd ht (fun q => h1 ((by have := (h_gt q).mp rfl; simpa using this))) (fun q => h2 ((by have := mt (h_gt q).mpr (by simp); simpa using this)))
theorem go_ifgtY {o : Int} {x : Int32} (hd : Dc bytes pc (.ifCond .gt o) 3 nx) (ht : (pc : Int) + o = (tg : Nat)) (hc : 0 < x.toInt) (h : Go C tg L S H cells slots) : Go C pc L (.int x :: S) H cells slots :=
  go_ifgt hd ht (fun _ => h) (fun q => absurd hc (by first | exact q | exact not_not_intro q | omega))
theorem go_ifgtN {o : Int} {x : Int32} (hd : Dc bytes pc (.ifCond .gt o) 3 nx) (ht : (pc : Int) + o = (tg : Nat)) (hc : x.toInt ≤ 0) (h : Go C nx L S H cells slots) : Go C pc L (.int x :: S) H cells slots :=
  go_ifgt hd ht (fun q => absurd hc (by first | exact q | exact not_not_intro q | omega)) (fun _ => h)
theorem go_icle {o : Int} {x z : Int32} (hd : Dc bytes pc (.if_icmp .le o) 3 nx) (ht : (pc : Int) + o = (tg : Nat)) (h1 : x.toInt ≤ z.toInt → Go C tg L S H cells slots) (h2 : z.toInt < x.toInt → Go C nx L S H cells slots) : Go C pc L (.int z :: .int x :: S) H cells slots :=
  go_icmp hd ht (fun q => h1 ((h_le q).mp rfl)) (fun q => h2 ((by have := mt (h_le q).mpr (by simp); omega)))
theorem go_icleY {o : Int} {x z : Int32} (hd : Dc bytes pc (.if_icmp .le o) 3 nx) (ht : (pc : Int) + o = (tg : Nat)) (hc : x.toInt ≤ z.toInt) (h : Go C tg L S H cells slots) : Go C pc L (.int z :: .int x :: S) H cells slots :=
  go_icle hd ht (fun _ => h) (fun q => absurd hc (by first | exact q | exact not_not_intro q | omega))
theorem go_icleN {o : Int} {x z : Int32} (hd : Dc bytes pc (.if_icmp .le o) 3 nx) (ht : (pc : Int) + o = (tg : Nat)) (hc : z.toInt < x.toInt) (h : Go C nx L S H cells slots) : Go C pc L (.int z :: .int x :: S) H cells slots :=
  go_icle hd ht (fun q => absurd hc (by first | exact q | exact not_not_intro q | omega)) (fun _ => h)
theorem go_ifle {o : Int} {x : Int32} (hd : Dc bytes pc (.ifCond .le o) 3 nx) (ht : (pc : Int) + o = (tg : Nat)) (h1 : x.toInt ≤ 0 → Go C tg L S H cells slots) (h2 : 0 < x.toInt → Go C nx L S H cells slots) : Go C pc L (.int x :: S) H cells slots :=
  go_if hd ht (fun q => h1 ((by have := (h_le q).mp rfl; simpa using this))) (fun q => h2 ((by have := mt (h_le q).mpr (by simp); simpa using this)))
theorem go_ifleY {o : Int} {x : Int32} (hd : Dc bytes pc (.ifCond .le o) 3 nx) (ht : (pc : Int) + o = (tg : Nat)) (hc : x.toInt ≤ 0) (h : Go C tg L S H cells slots) : Go C pc L (.int x :: S) H cells slots :=
  go_ifle hd ht (fun _ => h) (fun q => absurd hc (by first | exact q | exact not_not_intro q | omega))
theorem go_ifleN {o : Int} {x : Int32} (hd : Dc bytes pc (.ifCond .le o) 3 nx) (ht : (pc : Int) + o = (tg : Nat)) (hc : 0 < x.toInt) (h : Go C nx L S H cells slots) : Go C pc L (.int x :: S) H cells slots :=
  go_ifle hd ht (fun q => absurd hc (by first | exact q | exact not_not_intro q | omega)) (fun _ => h)
theorem lcm_eq (x z : Int64) : XT.cmpL x z = 0 ↔ x = z := by
  unfold XT.cmpL
  by_cases h1 : z < x
  · rw [if_pos h1]; constructor
    · intro h; cases h
    · rintro rfl; exact (Int64.lt_irrefl h1).elim
  · rw [if_neg h1]; by_cases h2 : x = z
    · rw [if_pos h2]; simp [h2]
    · rw [if_neg h2]; constructor
      · intro h; cases h
      · intro h; exact absurd h h2
theorem lcm_lt (x z : Int64) : (XT.cmpL x z).toInt < 0 ↔ x.toInt < z.toInt := by
  unfold XT.cmpL
  by_cases h1 : z < x
  · rw [if_pos h1]; rw [Int64.lt_iff_toInt_lt] at h1; constructor
    · intro h; exact absurd h (by decide)
    · intro h; omega
  · rw [if_neg h1]; rw [Int64.lt_iff_toInt_lt] at h1; by_cases h2 : x = z
    · rw [if_pos h2]; subst h2; constructor
      · intro h; exact absurd h (by decide)
      · intro h; omega
    · rw [if_neg h2]; have : x.toInt ≠ z.toInt := fun q => h2 (Int64.toInt_inj.mp q)
      constructor
      · intro h; omega
      · intro h; decide
theorem lcm_gt (x z : Int64) : 0 < (XT.cmpL x z).toInt ↔ z.toInt < x.toInt := by
  unfold XT.cmpL
  by_cases h1 : z < x
  · rw [if_pos h1]; rw [Int64.lt_iff_toInt_lt] at h1; constructor
    · intro h; omega
    · intro h; decide
  · rw [if_neg h1]; rw [Int64.lt_iff_toInt_lt] at h1; by_cases h2 : x = z
    · rw [if_pos h2]; subst h2; constructor
      · intro h; exact absurd h (by decide)
      · intro h; omega
    · rw [if_neg h2]; constructor
      · intro h; exact absurd h (by decide)
      · intro h; omega
theorem go_lcmp {x z : Int64} (hd : Dc bytes pc .lcmp 1 nx) (h : Go C nx L (.int (XT.cmpL x z) :: S) H cells slots) : Go C pc L (.long z :: .long x :: S) H cells slots :=
  go_pure (fun T _ _ _ X t k => by obtain ⟨hd, rfl⟩ := hd; exact XT.lcmp X.here C.exec rfl (hb C.bys hd) rfl k) h
theorem go_lceq {o : Int} {x z : Int64} {p1 : Nat} (hd1 : Dc bytes pc .lcmp 1 p1) (hd : Dc bytes p1 (.ifCond .eq o) 3 nx) (ht : (p1 : Int) + o = (tg : Nat)) (h1 : x = z → Go C tg L S H cells slots) (h2 : ¬ x = z → Go C nx L S H cells slots) : Go C pc L (.long z :: .long x :: S) H cells slots :=
  go_lcmp hd1 (go_ifeq hd ht (fun q => h1 ((lcm_eq x z).mp q)) (fun q => h2 (fun r => q ((lcm_eq x z).mpr r))))
theorem go_lcne {o : Int} {x z : Int64} {p1 : Nat} (hd1 : Dc bytes pc .lcmp 1 p1) (hd : Dc bytes p1 (.ifCond .ne o) 3 nx) (ht : (p1 : Int) + o = (tg : Nat)) (h1 : ¬ x = z → Go C tg L S H cells slots) (h2 : x = z → Go C nx L S H cells slots) : Go C pc L (.long z :: .long x :: S) H cells slots :=
  go_lcmp hd1 (go_ifne hd ht (fun q => h1 (fun r => q ((lcm_eq x z).mpr r))) (fun q => h2 ((lcm_eq x z).mp q)))
theorem go_lclt {o : Int} {x z : Int64} {p1 : Nat} (hd1 : Dc bytes pc .lcmp 1 p1) (hd : Dc bytes p1 (.ifCond .lt o) 3 nx) (ht : (p1 : Int) + o = (tg : Nat)) (h1 : x.toInt < z.toInt → Go C tg L S H cells slots) (h2 : z.toInt ≤ x.toInt → Go C nx L S H cells slots) : Go C pc L (.long z :: .long x :: S) H cells slots :=
  go_lcmp hd1 (go_iflt hd ht (fun q => h1 (by have := lcm_lt x z; omega)) (fun q => h2 (by have := lcm_lt x z; omega)))
theorem go_lcge {o : Int} {x z : Int64} {p1 : Nat} (hd1 : Dc bytes pc .lcmp 1 p1) (hd : Dc bytes p1 (.ifCond .ge o) 3 nx) (ht : (p1 : Int) + o = (tg : Nat)) (h1 : z.toInt ≤ x.toInt → Go C tg L S H cells slots) (h2 : x.toInt < z.toInt → Go C nx L S H cells slots) : Go C pc L (.long z :: .long x :: S) H cells slots :=
  go_lcmp hd1 (go_ifge hd ht (fun q => h1 (by have := lcm_lt x z; omega)) (fun q => h2 (by have := lcm_lt x z; omega)))
theorem go_lcgt {o : Int} {x z : Int64} {p1 : Nat} (hd1 : Dc bytes pc .lcmp 1 p1) (hd : Dc bytes p1 (.ifCond .gt o) 3 nx) (ht : (p1 : Int) + o = (tg : Nat)) (h1 : z.toInt < x.toInt → Go C tg L S H cells slots) (h2 : x.toInt ≤ z.toInt → Go C nx L S H cells slots) : Go C pc L (.long z :: .long x :: S) H cells slots :=
  go_lcmp hd1 (go_ifgt hd ht (fun q => h1 (by have := lcm_gt x z; omega)) (fun q => h2 (by have := lcm_gt x z; omega)))
theorem go_lcle {o : Int} {x z : Int64} {p1 : Nat} (hd1 : Dc bytes pc .lcmp 1 p1) (hd : Dc bytes p1 (.ifCond .le o) 3 nx) (ht : (p1 : Int) + o = (tg : Nat)) (h1 : x.toInt ≤ z.toInt → Go C tg L S H cells slots) (h2 : z.toInt < x.toInt → Go C nx L S H cells slots) : Go C pc L (.long z :: .long x :: S) H cells slots :=
  go_lcmp hd1 (go_ifle hd ht (fun q => h1 (by have := lcm_gt x z; omega)) (fun q => h2 (by have := lcm_gt x z; omega)))
theorem go_acmp {cd : ACond} {o : Int} {v w : Value} {same : Bool} (hd : Dc bytes pc (.if_acmp cd o) 3 nx) (hv : v.isRef = true) (hw : w.isRef = true) (hs : decide (v = w) = same) (ht : (pc : Int) + o = (tg : Nat)) (h : Go C (if acV cd same = true then tg else nx) L S H cells slots) : Go C pc L (w :: v :: S) H cells slots :=
  go_pure (fun T _ _ _ X t k => by
    obtain ⟨hd, rfl⟩ := hd
    refine Jvm.RoadKit.acmp (g := frm b m pc L (w :: v :: S)) X C.exec rfl ((isRef_up b v).trans hv) ((isRef_up b w).trans hw) (pc0 := pc) (same := same) rfl (hb C.bys hd) rfl ?_ (by omega) (pc' := if acV cd same = true then tg else pc + 3) ?_ k
    · rw [← hs]
      have : upV b v = upV b w ↔ v = w := by
        constructor
        · intro q; cases v <;> cases w <;> simp_all [upV, Value.isRef]
        · intro q; rw [q]
      simp [this]
    · congr 1; omega) h
theorem go_ifnull_null {o : Int} (hd : Dc bytes pc (.ifnull o) 3 nx) (ht : (pc : Int) + o = (tg : Nat)) (h : Go C tg L S H cells slots) : Go C pc L (.null :: S) H cells slots :=
  go_pure (fun T _ _ _ X t k => XS.ifnullYes X.here C.exec rfl (pc0 := pc) (pc' := tg) rfl (hb C.bys hd.1) rfl (by omega) (by omega) k) h
theorem go_ifnull_ref {o : Int} {a : Nat} (hd : Dc bytes pc (.ifnull o) 3 nx) (h : Go C nx L S H cells slots) : Go C pc L (.ref a :: S) H cells slots :=
  go_pure (fun T _ _ _ X t k => by obtain ⟨hd, rfl⟩ := hd; exact XS.ifnullNo X.here C.exec rfl (hb C.bys hd) rfl k) h
theorem go_ifnonnull_ref {o : Int} {a : Nat} (hd : Dc bytes pc (.ifnonnull o) 3 nx) (ht : (pc : Int) + o = (tg : Nat)) (h : Go C tg L S H cells slots) : Go C pc L (.ref a :: S) H cells slots :=
  go_pure (fun T _ _ _ X t k => XT.ifnonnullYes X.here C.exec rfl (pc0 := pc) (pc' := tg) rfl (hb C.bys hd.1) rfl (by omega) (by omega) k) h
def oneS : Slot → Bool
  | .unset => true
  | .val v => v.category == 1
  | .second => false
def notL : Slot → Bool
  | .unset => true
  | .val v => v.category == 1
  | .second => true
theorem oneS_up {o : Slot} (h : oneS o = true) : upS b o = .unset ∨ ∃ w, upS b o = .val w ∧ w.category = 1 := by
  cases o with
  | unset => exact Or.inl rfl
  | second => cases h
  | val v => exact Or.inr ⟨_, rfl, (cat_up b v).trans (by simpa [oneS] using h)⟩
theorem set_up (k : Nat) (v : Value) : (L.map (upS b)).toArray.setIfInBounds k (.val (upV b v)) = ((L.set k (.val v)).map (upS b)).toArray := by
  simp [List.map_set, upS]
theorem sto1 {k : Nat} {o : Slot} {v : Value} (hk : L[k]? = some o) (ho : oneS o = true) (hv : v.category = 1) : storeLocals (L.map (upS b)).toArray k (upV b v) = some ((L.set k (.val v)).map (upS b)).toArray := by
  rw [XS.store1 (getL hk) (oneS_up ho) ((cat_up b v).trans hv), set_up]
theorem sto2 {k : Nat} {o o' : Slot} {x : Int64} (hk : L[k]? = some o) (hk' : L[k + 1]? = some o') (ho : oneS o = true ∨ ∃ z, o = .val (.long z)) (ho' : notL o' = true) : storeLocals (L.map (upS b)).toArray k (.long x) = some (((L.set k (.val (.long x))).set (k + 1) .second).map (upS b)).toArray := by
  obtain ⟨A, hA⟩ : ∃ A, A = (L.map (upS b)).toArray := ⟨_, rfl⟩
  have e0 := getL (b := b) hk
  have e1 := getL (b := b) hk'
  have fin : ((L.map (upS b)).toArray.setIfInBounds k (.val (.long x))).setIfInBounds (k + 1) .second = (((L.set k (.val (.long x))).set (k + 1) .second).map (upS b)).toArray := by
    simp [List.map_set, upS, upV]
  rw [← fin]
  rw [← hA] at e0 e1 ⊢
  clear hA fin
  have i0 : k < A.size := (Array.getElem?_eq_some_iff.mp e0).1
  have i1 : k + 1 < A.size := (Array.getElem?_eq_some_iff.mp e1).1
  have s1 : ∀ B : Array Slot, B.size = A.size → setAt B (k + 1) .second = some (B.setIfInBounds (k + 1) .second) := fun B hB => by simp [setAt, hB, i1]
  have self : ∀ (B : Array Slot) (u : Slot), B.size = A.size → B[k + 1]? = some u → (∀ w, u = .val w → w.category ≠ 2) → storeSelf B k (.long x) = some ((B.setIfInBounds k (.val (.long x))).setIfInBounds (k + 1) .second) := by
    intro B u hB hu hc
    have e2 : (B.setIfInBounds k (.val (.long x)))[k + 1]? = some u := by
      rw [Array.getElem?_setIfInBounds_ne (by omega)]; exact hu
    have e3 : setAt B k (.val (.long x)) = some (B.setIfInBounds k (.val (.long x))) := by simp [setAt, hB, i0]
    have e4 := s1 (B.setIfInBounds k (.val (.long x))) (by simp [hB])
    unfold storeSelf
    rw [e3]
    simp only [Option.bind_eq_bind, Option.bind_some, Value.category, if_true, e2]
    cases u with
    | unset => exact e4
    | second => exact e4
    | val w =>
      have := hc w rfl
      simp only [Value.category] at this
      simp only [this, if_false]
      exact e4
  have n1 : ∀ w, upS b o' = .val w → w.category ≠ 2 := by
    intro w hw
    cases o' with
    | unset => cases hw
    | second => cases hw
    | val v => cases hw; rw [cat_up]; intro q; simp [notL, q] at ho'
  rcases ho with ho | ⟨z, rfl⟩
  · have a1 := oneS_up (b := b) ho
    have step : storeLocals A k (.long x) = storeSelf A k (.long x) := by
      rcases a1 with a1 | ⟨w, a1, a2⟩
      · simp [storeLocals, e0, a1]
      · simp [storeLocals, e0, a1, a2]
    rw [step]
    exact self A _ rfl e1 n1
  · have step : storeLocals A k (.long x) = storeSelf (A.setIfInBounds (k + 1) .unset) k (.long x) := by
      have e3 : setAt A (k + 1) .unset = some (A.setIfInBounds (k + 1) .unset) := by simp [setAt, i1]
      unfold storeLocals
      rw [e0]
      simp only [upS, upV, Option.bind_eq_bind, Option.bind_some, Value.category, if_true, e3]
    rw [step, self (A.setIfInBounds (k + 1) .unset) .unset (by simp) (by simp [i1]) (fun w hw => by cases hw)]
    congr 1
    apply Array.ext_getElem?
    intro j
    simp only [Array.getElem?_setIfInBounds]
    by_cases q : k + 1 = j
    · subst q; simp
    · simp [q]
theorem go_istore {k : Nat} {o : Slot} {x : Int32} (hd : Dc bytes pc (.istore k) 2 nx) (hk : L[k]? = some o) (ho : oneS o = true) (h : Go C nx (L.set k (.val (.int x))) S H cells slots) : Go C pc L (.int x :: S) H cells slots :=
  go_pure (fun T _ _ _ X t r => by obtain ⟨hd, rfl⟩ := hd; exact XS.istore X.here C.exec rfl (hb C.bys hd) rfl (sto1 (v := .int x) hk ho rfl) r) h
theorem go_istoreN {k : Fin 4} {o : Slot} {x : Int32} (hd : Dc bytes pc (.istore_n k) 1 nx) (hk : L[k.val]? = some o) (ho : oneS o = true) (h : Go C nx (L.set k.val (.val (.int x))) S H cells slots) : Go C pc L (.int x :: S) H cells slots :=
  go_pure (fun T _ _ _ X t r => by obtain ⟨hd, rfl⟩ := hd; exact XS.istoreN X.here C.exec rfl (hb C.bys hd) rfl (sto1 (v := .int x) hk ho rfl) r) h
theorem cat_ref {v : Value} (h : v.isRef = true) : v.category = 1 := by cases v <;> first | rfl | cases h
theorem go_astore {k : Nat} {o : Slot} {v : Value} (hd : Dc bytes pc (.astore k) 2 nx) (hk : L[k]? = some o) (ho : oneS o = true) (hv : v.isRef = true) (h : Go C nx (L.set k (.val v)) S H cells slots) : Go C pc L (v :: S) H cells slots :=
  go_pure (fun T _ _ _ X t r => by obtain ⟨hd, rfl⟩ := hd; exact XS.astore X.here C.exec rfl (hb C.bys hd) rfl ((isRef_up b v).trans hv) (sto1 (v := v) hk ho (cat_ref hv)) r) h
theorem go_astoreN {k : Fin 4} {o : Slot} {v : Value} (hd : Dc bytes pc (.astore_n k) 1 nx) (hk : L[k.val]? = some o) (ho : oneS o = true) (hv : v.isRef = true) (h : Go C nx (L.set k.val (.val v)) S H cells slots) : Go C pc L (v :: S) H cells slots :=
  go_pure (fun T _ _ _ X t r => by obtain ⟨hd, rfl⟩ := hd; exact XS.astoreN X.here C.exec rfl (hb C.bys hd) rfl ((isRef_up b v).trans hv) (sto1 (v := v) hk ho (cat_ref hv)) r) h
theorem go_lstore {k : Nat} {o o' : Slot} {x : Int64} (hd : Dc bytes pc (.lstore k) 2 nx) (hk : L[k]? = some o) (hk' : L[k + 1]? = some o') (ho : oneS o = true ∨ ∃ z, o = .val (.long z)) (ho' : notL o' = true) (h : Go C nx ((L.set k (.val (.long x))).set (k + 1) .second) S H cells slots) : Go C pc L (.long x :: S) H cells slots :=
  go_pure (fun T _ _ _ X t r => by obtain ⟨hd, rfl⟩ := hd; exact XT.lstore X.here C.exec rfl (hb C.bys hd) rfl (sto2 hk hk' ho ho') r) h
theorem go_lstoreN {k : Fin 4} {o o' : Slot} {x : Int64} (hd : Dc bytes pc (.lstore_n k) 1 nx) (hk : L[k.val]? = some o) (hk' : L[k.val + 1]? = some o') (ho : oneS o = true ∨ ∃ z, o = .val (.long z)) (ho' : notL o' = true) (h : Go C nx ((L.set k.val (.val (.long x))).set (k.val + 1) .second) S H cells slots) : Go C pc L (.long x :: S) H cells slots :=
  go_pure (fun T _ _ _ X t r => by obtain ⟨hd, rfl⟩ := hd; exact XT.lstoreN X.here C.exec rfl (hb C.bys hd) rfl (sto2 hk hk' ho ho') r) h
theorem go_iinc {k : Nat} {i : Int} {x z : Int32} (hd : Dc bytes pc (.iinc k i) 3 nx) (hk : L[k]? = some (.val (.int x))) (hz : Int32.ofInt i = z) (h : Go C nx (L.set k (.val (.int (x + z)))) S H cells slots) : Go C pc L S H cells slots :=
  go_pure (fun T _ _ _ X t r => by obtain ⟨hd, rfl⟩ := hd; subst hz; exact XS.iinc X.here C.exec rfl (hb C.bys hd) (getL hk) (sto1 (v := .int (x + Int32.ofInt i)) hk rfl rfl) r) h
/-! ### the heap -/
theorem cell_arr {i : Nat} {ty : FieldType} {vs : List Value} {h : Heap} (RR : Rel Z a0 b H h) (hH : H[i]? = some (ar ty vs)) : ∃ c : Cell, Arr Z h (b + i) c ty ∧ c.slots = (vs.map (upV b)).toArray := RR.2 i _ hH
theorem idx_ok {j : Int32} {k n : Nat} (hj : j.toInt = (k : Int)) (hk : k < n) : ¬ (j < 0 ∨ n ≤ j.toNatClampNeg) := by
  rw [Int32.lt_iff_toInt_lt]
  have e0 : (0 : Int32).toInt = 0 := rfl
  simp only [Int32.toNatClampNeg, hj, e0]
  omega
theorem clamp_eq {j : Int32} {k : Nat} (hj : j.toInt = (k : Int)) : j.toNatClampNeg = k := by simp [Int32.toNatClampNeg, hj]
theorem go_iaload {i k : Nat} {vs : List Value} {j : Int32} {v : Value} (hd : Dc bytes pc .iaload 1 nx) (hH : H[i]? = some (ar .int vs)) (hj : j.toInt = (k : Int)) (hv : vs[k]? = some v) (h : Go C nx L (v :: S) H cells slots) : Go C pc L (.int j :: .ref i :: S) H cells slots := by
  intro T locs X N RR
  obtain ⟨c1, A, e1⟩ := cell_arr RR hH
  obtain ⟨hd, rfl⟩ := hd
  have hk : k < vs.length := (List.getElem?_eq_some_iff.mp hv).1
  exact (h T locs X N RR).back fun t r => X.iaload C.exec A.1 (State.isArrayOf_alike C.warm.alike A.2.1) A.2.2 (idx_ok hj (by rw [e1]; simpa using hk)) (by rw [clamp_eq hj, e1]; simp [hv]) (g := frm b m pc L (.int j :: .ref i :: S)) rfl rfl (hb C.bys hd) t r
theorem go_laload {i k : Nat} {vs : List Value} {j : Int32} {v : Value} (hd : Dc bytes pc .laload 1 nx) (hH : H[i]? = some (ar .long vs)) (hj : j.toInt = (k : Int)) (hv : vs[k]? = some v) (h : Go C nx L (v :: S) H cells slots) : Go C pc L (.int j :: .ref i :: S) H cells slots := by
  intro T locs X N RR
  obtain ⟨c1, A, e1⟩ := cell_arr RR hH
  obtain ⟨hd, rfl⟩ := hd
  have hk : k < vs.length := (List.getElem?_eq_some_iff.mp hv).1
  exact (h T locs X N RR).back fun t r => X.laload C.exec A.1 (State.isArrayOf_alike C.warm.alike A.2.1) A.2.2 (idx_ok hj (by rw [e1]; simpa using hk)) (by rw [clamp_eq hj, e1]; simp [hv]) (g := frm b m pc L (.int j :: .ref i :: S)) rfl rfl (hb C.bys hd) t r
theorem go_baload {i k : Nat} {vs : List Value} {j : Int32} {v : Value} (hd : Dc bytes pc .baload 1 nx) (hH : H[i]? = some (ar .byte vs)) (hj : j.toInt = (k : Int)) (hv : vs[k]? = some v) (h : Go C nx L (v :: S) H cells slots) : Go C pc L (.int j :: .ref i :: S) H cells slots := by
  intro T locs X N RR
  obtain ⟨c1, A, e1⟩ := cell_arr RR hH
  obtain ⟨hd, rfl⟩ := hd
  have hk : k < vs.length := (List.getElem?_eq_some_iff.mp hv).1
  exact (h T locs X N RR).back fun t r => X.baloadBytes C.exec A.1 (State.isArrayOf_alike C.warm.alike A.2.1) A.2.2 (idx_ok hj (by rw [e1]; simpa using hk)) (by rw [clamp_eq hj, e1]; simp [hv]) (g := frm b m pc L (.int j :: .ref i :: S)) rfl rfl (hb C.bys hd) t r
theorem go_zaload {i k : Nat} {vs : List Value} {j : Int32} {v : Value} (hd : Dc bytes pc .baload 1 nx) (hH : H[i]? = some (ar .boolean vs)) (hj : j.toInt = (k : Int)) (hv : vs[k]? = some v) (h : Go C nx L (v :: S) H cells slots) : Go C pc L (.int j :: .ref i :: S) H cells slots := by
  intro T locs X N RR
  obtain ⟨c1, A, e1⟩ := cell_arr RR hH
  obtain ⟨hd, rfl⟩ := hd
  have hk : k < vs.length := (List.getElem?_eq_some_iff.mp hv).1
  exact (h T locs X N RR).back fun t r => X.baloadBooleans C.exec A.1 (State.isArrayOf_alike C.warm.alike A.2.1) A.2.2 (idx_ok hj (by rw [e1]; simpa using hk)) (by rw [clamp_eq hj, e1]; simp [hv]) (g := frm b m pc L (.int j :: .ref i :: S)) rfl rfl (hb C.bys hd) t r
theorem go_aaload {i k : Nat} {ty : FieldType} {vs : List Value} {j : Int32} {v : Value} (hd : Dc bytes pc .aaload 1 nx) (hH : H[i]? = some (ar ty vs)) (hty : ty.isReference = true) (hj : j.toInt = (k : Int)) (hv : vs[k]? = some v) (h : Go C nx L (v :: S) H cells slots) : Go C pc L (.int j :: .ref i :: S) H cells slots := by
  intro T locs X N RR
  obtain ⟨c1, A, e1⟩ := cell_arr RR hH
  obtain ⟨hd, rfl⟩ := hd
  have hk : k < vs.length := (List.getElem?_eq_some_iff.mp hv).1
  exact (h T locs X N RR).back fun t r => X.aaload C.exec A.1 (State.isArrayOf_alike C.warm.alike A.2.1) hty A.2.2 (idx_ok hj (by rw [e1]; simpa using hk)) (by rw [clamp_eq hj, e1]; simp [hv]) (g := frm b m pc L (.int j :: .ref i :: S)) rfl rfl (hb C.bys hd) t r
theorem go_len {i : Nat} {ty : FieldType} {vs : List Value} {n : Int32} (hd : Dc bytes pc .arraylength 1 nx) (hH : H[i]? = some (ar ty vs)) (hn : vs.length.toInt32 = n) (h : Go C nx L (.int n :: S) H cells slots) : Go C pc L (.ref i :: S) H cells slots := by
  intro T locs X N RR
  obtain ⟨c1, A, e1⟩ := cell_arr RR hH
  obtain ⟨hd, rfl⟩ := hd
  subst hn
  refine (h T locs X N RR).back fun t k => X.arraylength C.exec A.1 (State.isArrayOf_alike C.warm.alike A.2.1) (g := frm b m pc L (.ref i :: S)) rfl rfl (hb C.bys hd) t ?_
  have e2 : c1.slots.size = vs.length := by rw [e1]; simp
  rw [e2]
  exact k
theorem go_getfield {i j idx : Nat} {Cn n d : String} {fs : List (String × String × Value)} {v : Value} (hd : Dc bytes pc (.getfield idx) 3 nx) (w : Jvm.Cond.fieldLink y.cls idx Cn n d ∈ W) (hH : H[i]? = some (ob Cn fs)) (hf : fs[j]? = some (n, d, v)) (h : Go C nx L (v :: S) H cells slots) : Go C pc L (.ref i :: S) H cells slots := by
  intro T locs X N RR
  obtain ⟨hd, rfl⟩ := hd
  have K : CellOk Z a0 b T.heap (b + i) (ob Cn fs) := RR.2 i _ hH
  obtain ⟨T1, X1, e1, st⟩ := getF X C.exec C.warm C.own (host := "") (Or.inl (C.hw _ w)) Via.refl rfl (K.2.1 _ (List.mem_of_getElem? hf)).1 (g := frm b m pc L (.ref i :: S)) rfl rfl (hb C.bys hd)
  exact (h T1 locs X1 N (by rw [e1]; exact RR)).back st
theorem go_getfieldN {i j idx : Nat} {Cn n d host : String} {fs : List (String × String × Value)} {v : Value} (hd : Dc bytes pc (.getfield idx) 3 nx) (w : Jvm.Cond.fieldLinkNest y.cls idx Cn n d host ∈ W) (hH : H[i]? = some (ob Cn fs)) (hf : fs[j]? = some (n, d, v)) (h : Go C nx L (v :: S) H cells slots) : Go C pc L (.ref i :: S) H cells slots := by
  intro T locs X N RR
  obtain ⟨hd, rfl⟩ := hd
  have K : CellOk Z a0 b T.heap (b + i) (ob Cn fs) := RR.2 i _ hH
  obtain ⟨T1, X1, e1, st⟩ := getF X C.exec C.warm C.own (Or.inr (C.hw _ w)) Via.refl rfl (K.2.1 _ (List.mem_of_getElem? hf)).1 (g := frm b m pc L (.ref i :: S)) rfl rfl (hb C.bys hd)
  exact (h T1 locs X1 N (by rw [e1]; exact RR)).back st
theorem go_putfieldN {i j idx kk : Nat} {Cn n d : String} {fs : List (String × String × Value)} {v v' o : Value} {ty : FieldType} (hd : Dc bytes pc (.putfield idx) 3 nx) (w : Jvm.Cond.fieldLink y.cls idx Cn n d ∈ W) (wl : Jvm.Cond.lays Cn Cn n d ∈ W ∨ (Jvm.Cond.laysFinal Cn Cn n d ∈ W ∧ y.cls = Cn ∧ y.name = "<init>")) (wi : Jvm.Cond.instantiable Cn kk ∈ W) (hty : parseFieldDescriptor d = some ty) (hH : H[i]? = some (ob Cn fs)) (hf : fs[j]? = some (n, d, o)) (hn : narrow ty (upV b v) = upV b v') (hfit : fits ty (upV b v') = true)
    (h : Go C nx L S (H.set i (ob Cn (fs.set j (n, d, v')))) cells slots) : Go C pc L (v :: .ref i :: S) H cells slots := by
  intro T locs X N RR
  obtain ⟨hd, rfl⟩ := hd
  have K : CellOk Z a0 b T.heap (b + i) (ob Cn fs) := RR.2 i _ hH
  obtain ⟨T1, h1, X1, e1, W1, st⟩ := putFN X C.exec C.warm C.own (C.hw _ w) Via.refl rfl (K.2.1 _ (List.mem_of_getElem? hf)).1 K.1 (wl.imp (fun q => C.hw _ q) (fun q => ⟨C.hw _ q.1, q.2.1, C.named.trans q.2.2⟩)) (C.hw _ wi) hty hn hfit (g := frm b m pc L (v :: .ref i :: S)) rfl rfl (hb C.bys hd)
  exact (h T1 _ X1 (Fr.snoc X1 N (Nat.le_add_right ..)) (by rw [e1]; exact RR.wr W1 (K.fset hf W1))).back st
theorem go_putfield {i j idx kk : Nat} {Cn n d : String} {fs : List (String × String × Value)} {v o : Value} {ty : FieldType} (hd : Dc bytes pc (.putfield idx) 3 nx) (w : Jvm.Cond.fieldLink y.cls idx Cn n d ∈ W) (wl : Jvm.Cond.lays Cn Cn n d ∈ W ∨ (Jvm.Cond.laysFinal Cn Cn n d ∈ W ∧ y.cls = Cn ∧ y.name = "<init>")) (wi : Jvm.Cond.instantiable Cn kk ∈ W) (hty : parseFieldDescriptor d = some ty) (hH : H[i]? = some (ob Cn fs)) (hf : fs[j]? = some (n, d, o)) (hn : narrow ty (upV b v) = upV b v) (hfit : fits ty (upV b v) = true)
    (h : Go C nx L S (H.set i (ob Cn (fs.set j (n, d, v)))) cells slots) : Go C pc L (v :: .ref i :: S) H cells slots := go_putfieldN hd w wl wi hty hH hf hn hfit h
theorem go_iastore {i k : Nat} {vs : List Value} {j : Int32} {x : Int32} (hd : Dc bytes pc .iastore 1 nx) (hH : H[i]? = some (ar .int vs)) (hj : j.toInt = (k : Int)) (hk : k < vs.length) (h : Go C nx L S (H.set i (ar .int (vs.set k (.int (x))))) cells slots) : Go C pc L (.int x :: .int j :: .ref i :: S) H cells slots := by
  intro T locs X N RR
  obtain ⟨c1, A, e1⟩ := cell_arr RR hH
  obtain ⟨hd, rfl⟩ := hd
  obtain ⟨T1, h1, X1, eh, W1, st⟩ := stI X C.exec C.warm rfl A (j := j) (idx_ok hj (by rw [e1]; simpa using hk)) (g := frm b m pc L (.int x :: .int j :: .ref i :: S)) rfl rfl (hb C.bys hd)
  rw [clamp_eq hj] at W1
  have K : CellOk Z a0 b h1 (b + i) (ar .int (vs.set k (.int (x)))) := ⟨_, A.same W1, by simp [Cell.setSlot, e1, List.map_set, upV, nar]⟩
  exact (h T1 _ X1 (Fr.snoc X1 N (Nat.le_add_right ..)) (by rw [eh]; exact RR.wr W1 K)).back st
theorem go_lastore {i k : Nat} {vs : List Value} {j : Int32} {x : Int64} (hd : Dc bytes pc .lastore 1 nx) (hH : H[i]? = some (ar .long vs)) (hj : j.toInt = (k : Int)) (hk : k < vs.length) (h : Go C nx L S (H.set i (ar .long (vs.set k (.long (x))))) cells slots) : Go C pc L (.long x :: .int j :: .ref i :: S) H cells slots := by
  intro T locs X N RR
  obtain ⟨c1, A, e1⟩ := cell_arr RR hH
  obtain ⟨hd, rfl⟩ := hd
  obtain ⟨T1, h1, X1, eh, W1, st⟩ := stJ X C.exec C.warm rfl A (j := j) (idx_ok hj (by rw [e1]; simpa using hk)) (g := frm b m pc L (.long x :: .int j :: .ref i :: S)) rfl rfl (hb C.bys hd)
  rw [clamp_eq hj] at W1
  have K : CellOk Z a0 b h1 (b + i) (ar .long (vs.set k (.long (x)))) := ⟨_, A.same W1, by simp [Cell.setSlot, e1, List.map_set, upV, nar]⟩
  exact (h T1 _ X1 (Fr.snoc X1 N (Nat.le_add_right ..)) (by rw [eh]; exact RR.wr W1 K)).back st
theorem go_bastore {i k : Nat} {vs : List Value} {j : Int32} {x : Int32} (hd : Dc bytes pc .bastore 1 nx) (hH : H[i]? = some (ar .byte vs)) (hj : j.toInt = (k : Int)) (hk : k < vs.length) (h : Go C nx L S (H.set i (ar .byte (vs.set k (.int (x.toInt8.toInt32))))) cells slots) : Go C pc L (.int x :: .int j :: .ref i :: S) H cells slots := by
  intro T locs X N RR
  obtain ⟨c1, A, e1⟩ := cell_arr RR hH
  obtain ⟨hd, rfl⟩ := hd
  obtain ⟨T1, h1, X1, eh, W1, st⟩ := stB X C.exec C.warm rfl A (j := j) (idx_ok hj (by rw [e1]; simpa using hk)) (g := frm b m pc L (.int x :: .int j :: .ref i :: S)) rfl rfl (hb C.bys hd)
  rw [clamp_eq hj] at W1
  have K : CellOk Z a0 b h1 (b + i) (ar .byte (vs.set k (.int (x.toInt8.toInt32)))) := ⟨_, A.same W1, by simp [Cell.setSlot, e1, List.map_set, upV, nar]⟩
  exact (h T1 _ X1 (Fr.snoc X1 N (Nat.le_add_right ..)) (by rw [eh]; exact RR.wr W1 K)).back st
theorem go_zastore {i k : Nat} {vs : List Value} {j : Int32} {x : Int32} (hd : Dc bytes pc .bastore 1 nx) (hH : H[i]? = some (ar .boolean vs)) (hj : j.toInt = (k : Int)) (hk : k < vs.length) (h : Go C nx L S (H.set i (ar .boolean (vs.set k (.int (x &&& 1))))) cells slots) : Go C pc L (.int x :: .int j :: .ref i :: S) H cells slots := by
  intro T locs X N RR
  obtain ⟨c1, A, e1⟩ := cell_arr RR hH
  obtain ⟨hd, rfl⟩ := hd
  obtain ⟨T1, h1, X1, eh, W1, st⟩ := stZ X C.exec C.warm rfl A (j := j) (idx_ok hj (by rw [e1]; simpa using hk)) (g := frm b m pc L (.int x :: .int j :: .ref i :: S)) rfl rfl (hb C.bys hd)
  rw [clamp_eq hj] at W1
  have K : CellOk Z a0 b h1 (b + i) (ar .boolean (vs.set k (.int (x &&& 1)))) := ⟨_, A.same W1, by simp [Cell.setSlot, e1, List.map_set, upV, nar]⟩
  exact (h T1 _ X1 (Fr.snoc X1 N (Nat.le_add_right ..)) (by rw [eh]; exact RR.wr W1 K)).back st
/-- the fields of a new object, laid -/
def Laids (Z : State) (a0 : Array Value) (b : Nat) (Cn : String) : List (String × String × Value) → Prop
  | [] => True
  | f :: fs => (Laid Z a0 Cn Cn f.1 f.2.1 ∧ ∃ t, parseFieldDescriptor f.2.1 = some t ∧ defaultValue t = upV b f.2.2) ∧ Laids Z a0 b Cn fs
theorem Laids.all {Cn : String} : ∀ {fs : List (String × String × Value)}, Laids Z a0 b Cn fs → ∀ f ∈ fs, Laid Z a0 Cn Cn f.1 f.2.1 ∧ ∃ t, parseFieldDescriptor f.2.1 = some t ∧ defaultValue t = upV b f.2.2
  | [], _, f, hf => by cases hf
  | g :: gs, h, f, hf => by
    rcases List.mem_cons.mp hf with rfl | hf
    · exact h.1
    · exact Laids.all h.2 f hf
theorem go_new {idx n : Nat} {Cn : String} {fs : List (String × String × Value)} (hd : Dc bytes pc (.new idx) 3 nx) (w : Jvm.Cond.classLink y.cls idx Cn ∈ W) (wi : Jvm.Cond.instantiable Cn n ∈ W) (wz : Jvm.Cond.initialized Cn ∈ W) (hl : Laids Z a0 b Cn fs) (hnd : (fs.map (·.1)).Nodup) (hc : cells + 1 ≤ R.cells) (hs : slots + n ≤ R.slots)
    (h : Go C nx L (.ref H.length :: S) (H ++ [ob Cn fs]) (cells + 1) (slots + n)) : Go C pc L S H cells slots := by
  intro T locs X N RR
  obtain ⟨hd, rfl⟩ := hd
  obtain ⟨vm', cC, kC, h1, h2, h3, h4, X', st⟩ := X.newCold C.exec C.own (mv C.warm (C.hw _ w)) (mv C.warm (C.hw _ wi)) (mv C.warm (C.hw _ wz)) (g := frm b m pc L S) rfl (hb C.bys hd) hc hs
  rw [C.warm.alike.findClass] at h1
  obtain ⟨kZ, z1, -⟩ := Vm.findClass_spec h1
  obtain ⟨k', z2, z3⟩ := C.warm.alike.2.2 _ _ z1
  cases h2.symm.trans z2
  have ei : kC.instanceTypes = kZ.instanceTypes := by rw [z3]
  have hN : (T.heap.push { cls := cC, slots := kC.instanceTypes.map defaultValue, vm := .none })[T.heap.size]? = some { cls := cC, slots := kC.instanceTypes.map defaultValue, vm := .none } := by simp
  have hE : Ext T.heap (T.heap.push { cls := cC, slots := kC.instanceTypes.map defaultValue, vm := .none }) := ⟨by simp, fun a c q => by
    rw [Array.getElem?_push_lt (Array.getElem?_eq_some_iff.mp q).1]; exact (Array.getElem?_eq_getElem _).symm.trans q⟩
  have ea : T.heap.size = b + H.length := RR.1
  have st2 := st
  rw [ea] at st2
  refine (h _ locs X' N (RR.push hE (by simp) ?_)).back st2
  rw [← ea]
  refine ⟨⟨_, kZ, hN, h1, z1, rfl, fun _ => by simp [ei]⟩, fun f hf => ?_, hnd⟩
  obtain ⟨La, t, ht, hdv⟩ := hl.all f hf
  refine ⟨?_, La, t, ht⟩
  obtain ⟨c1, k1, cf, kf, i, ff, a1, a2, a3, a4, a5, a6, -⟩ := La.spec
  cases h1.symm.trans a1
  cases z1.symm.trans a2
  exact ⟨_, cf, kf, i, ff, hN, a3, a4, by simp, rfl, a5, by simp [ei, a6, (State.fieldFound?_type a3 ht).2, hdv]⟩
theorem up_default (t : FieldType) : upV b (defaultValue t) = defaultValue t := by cases t <;> rfl
theorem go_newarray {aty : ArrayType} {n : Int32} {k cap : Nat} {vs : List Value} (hd : Dc bytes pc (.newarray aty) 2 nx) (w : Jvm.Cond.arrayClass (newarray.typeOf aty) ∈ W) (hn : n.toInt = (k : Int)) (hv : List.replicate k (defaultValue (newarray.typeOf aty)) = vs) (hcap : k ≤ cap) (hbig : cap * 8 ≤ 536870912) (hc : cells + 1 ≤ R.cells) (hs : slots + cap ≤ R.slots)
    (h : Go C nx L (.ref H.length :: S) (H ++ [ar (newarray.typeOf aty) vs]) (cells + 1) (slots + cap)) : Go C pc L (.int n :: S) H cells slots := by
  intro T locs X N RR
  obtain ⟨hd, rfl⟩ := hd
  have hcb : componentBytes (newarray.typeOf aty) ≤ 8 := by cases aty <;> decide
  have ek := clamp_eq hn
  obtain ⟨cA, kA, comp, h1, h2, h3, X', st⟩ := X.newarrayPrim C.exec (mvA C.warm (C.hw _ w)) (g := frm b m pc L (.int n :: S)) rfl (hb C.bys hd) rfl (by rw [Int32.lt_iff_toInt_lt, hn]; have : (0 : Int32).toInt = 0 := rfl; omega) (by rw [ek]; exact Nat.le_trans (Nat.mul_le_mul hcap hcb) hbig) hc (by omega)
  rw [ek] at X' st
  rw [C.warm.alike.findClass] at h1
  obtain ⟨kZ, z1, -⟩ := Vm.findClass_spec h1
  obtain ⟨k', z2, z3⟩ := C.warm.alike.2.2 _ _ z1
  cases h2.symm.trans z2
  have ea : T.heap.size = b + H.length := RR.1
  have hE : Ext T.heap (T.heap.push { cls := cA, slots := Array.replicate k (defaultValue (newarray.typeOf aty)), vm := .none }) := ⟨by simp, fun a c q => by
    rw [Array.getElem?_push_lt (Array.getElem?_eq_some_iff.mp q).1]; exact (Array.getElem?_eq_getElem _).symm.trans q⟩
  have st2 := st
  rw [ea] at st2
  refine (h _ locs (X'.more (Nat.le_refl _) (by omega)) N (RR.push hE (by simp) ?_)).back st2
  rw [← ea]
  refine ⟨_, ⟨by show (T.heap.push _)[T.heap.size]? = _; simp; rfl, ⟨by simp, kZ, z1, comp, by rw [← h3, z3]⟩, by simp⟩, ?_⟩
  subst hv
  simp [up_default]
/-! ### calls -/
theorem go_initO {idx : Nat} (hd : Dc bytes pc (.invokespecial idx) 3 nx) (w1 : Jvm.Cond.methodLink y.cls idx Lib.objectInit ∈ W) (w2 : Jvm.Cond.instanceMethod Lib.objectInit ∈ W) (w3 : Jvm.Cond.code Lib.objectInit ⟨#[0xb1]⟩ 1 none ∈ W) (hL : L.length = nL) (hf : 1 ≤ R.frames) (wdt : Nat) (hwd : (S.map Value.category).sum ≤ wdt) (hlo : wdt + 12 ≤ R.locals) {i : Nat}
    (h : Go C nx L S H cells slots) : Go C pc L (.ref i :: S) H cells slots := by
  intro T locs X N RR
  obtain ⟨hd, rfl⟩ := hd
  obtain ⟨T1, X1, e1, st⟩ := initO X C.exec C.warm C.own (C.hw _ w1) (C.hw _ w2) (C.hw _ w3) rfl (g := frm b m pc L (.ref i :: S)) rfl (by simp [C.ml, hL]) rfl (hb C.bys hd) hf (W := wdt) (by
    have : ((S.map (upV b)).map fun v => v.category) = S.map Value.category := by rw [List.map_map]; exact List.map_congr_left fun v _ => cat_up b v
    show 2 * 0 + ((S.map (upV b)).map fun v => v.category).sum ≤ wdt
    rw [this]; omega) hlo
  exact (h T1 locs X1 N (by rw [e1]; exact RR)).back st
theorem wid_up (wdt : Nat) (hwd : (S.map Value.category).sum ≤ wdt) : 2 * 0 + ((S.map (upV b)).map fun v => v.category).sum ≤ wdt := by
  have : ((S.map (upV b)).map fun v => v.category) = S.map Value.category := by rw [List.map_map]; exact List.map_congr_left fun v _ => cat_up b v
  rw [this]; omega
theorem app_up (v : Option Value) : (v.map (upV b)).toList ++ S.map (upV b) = (v.toList ++ S).map (upV b) := by cases v <;> rfl
theorem go_virtual {y' : MethodName} {bytes' : ByteArray} {maxL : Nat} {ret' : Option FieldType} {rm : Room} {as : List Value} {i idx : Nat} {Cn : String} {fs : List (String × String × Value)} {P : Option Value → List GCell → Prop} {ps : List FieldType} {rt : Option FieldType}
    (hd : Dc bytes pc (.invokevirtual idx) 3 nx) (w1 : Jvm.Cond.methodLink y.cls idx y' ∈ W) (w2 : Jvm.Cond.declares y' ∈ W) (w3 : Jvm.Cond.selects Cn y' y' ∈ W) (w4 : Jvm.Cond.instanceMethod y' ∈ W) (w5 : Jvm.Cond.code y' bytes' maxL ret' ∈ W) (w6 : Jvm.Cond.initialized y'.cls ∈ W)
    (hy : y'.cls ≠ "java/lang/invoke/MethodHandle" ∧ y'.cls ≠ "java/lang/invoke/VarHandle") (hdesc : parseMethodDescriptor y'.desc = some ⟨ps, rt⟩) (hlen : as.length = ps.length)
    (M : Met l Z a0 b y' bytes' maxL ret' rm (.ref i :: as) H P) (hH : H[i]? = some (ob Cn fs)) (hS : S' = as.reverse ++ .ref i :: S) (hL : L.length = nL) (wdt : Nat) (hwd : (S.map Value.category).sum ≤ wdt)
    (hfr : rm.frames + 1 ≤ R.frames) (hlo : wdt + (maxL + 11) + rm.locals ≤ R.locals) (hc : cells + rm.cells ≤ R.cells) (hs : slots + rm.slots ≤ R.slots)
    (h : ∀ v H', P v H' → Go C nx L (v.toList ++ S) H' (cells + rm.cells) (slots + rm.slots)) : Go C pc L S' H cells slots := by
  intro T locs X N RR
  obtain ⟨hd, rfl⟩ := hd
  subst hS
  have E : Exa Z T.heap (b + i) Cn := (show CellOk Z a0 b T.heap (b + i) (ob Cn fs) from RR.2 i _ hH).1
  obtain ⟨cB, kB, q1, q2, q3⟩ := isOf (T := T) C.warm rfl E
  obtain ⟨_, _, ⟨T', L', k', n'⟩, -, X', ⟨Lc, hQ, l', y1, z1⟩, st⟩ := X.virtualBack C.exec (y := y') (z := y') C.own (mvT C.warm (C.hw _ w1)) (mvT C.warm (C.hw _ w2)) (notFace_of_selects (args := #[]) (mvT C.warm (C.hw _ w3))) (mvT C.warm (C.hw _ w3)) (mvT C.warm (C.hw _ w4)) hy
    (backOf (W := wdt) (M T.heap RR []) C.warm (C.hw _ w5) (C.hw _ w6) hfr hlo) q1 q3 (g := frm b m pc L (as.reverse ++ .ref i :: S)) rfl (by simp [C.ml, hL]) (Steps.refl _) (argsL := as.map (upV b)) (rest := S.map (upV b)) (lenOf hdesc (by simp [hlen])) (by simp [upV]) (wid_up wdt hwd) (hb C.bys hd) (fun _ _ => ⟨by simp [upV], rfl, hc, hs⟩)
  dsimp only [Pt.U, Pt.locs, Pt.cells, Pt.slots] at X' l' y1 z1 st hQ
  subst l' y1 z1
  obtain ⟨N2, v', H', rfl, RR', hP⟩ := hQ
  refine (h v' H' hP T' _ X' (Fr.app N N2) RR').back fun t k => st.trans ?_
  rw [app_up]
  exact k
theorem go_special {y' : MethodName} {bytes' : ByteArray} {maxL : Nat} {rm : Room} {as : List Value} {i idx : Nat} {P : Option Value → List GCell → Prop} {ps : List FieldType} {rt : Option FieldType} (hn : y'.name = "<init>")
    (hd : Dc bytes pc (.invokespecial idx) 3 nx) (w1 : Jvm.Cond.methodLink y.cls idx y' ∈ W) (w4 : Jvm.Cond.instanceMethod y' ∈ W) (w5 : Jvm.Cond.code y' bytes' maxL none ∈ W) (w6 : Jvm.Cond.initialized y'.cls ∈ W)
    (hy : y'.cls ≠ "java/lang/invoke/MethodHandle" ∧ y'.cls ≠ "java/lang/invoke/VarHandle") (hdesc : parseMethodDescriptor y'.desc = some ⟨ps, rt⟩) (hlen : as.length = ps.length)
    (M : Met l Z a0 b y' bytes' maxL none rm (.ref i :: as) H P) (hS : S' = as.reverse ++ .ref i :: S) (hL : L.length = nL) (wdt : Nat) (hwd : (S.map Value.category).sum ≤ wdt)
    (hfr : rm.frames + 1 ≤ R.frames) (hlo : wdt + (maxL + 11) + rm.locals ≤ R.locals) (hc : cells + rm.cells ≤ R.cells) (hs : slots + rm.slots ≤ R.slots)
    (h : ∀ v H', P v H' → Go C nx L (v.toList ++ S) H' (cells + rm.cells) (slots + rm.slots)) : Go C pc L S' H cells slots := by
  intro T locs X N RR
  obtain ⟨hd, rfl⟩ := hd
  subst hS
  obtain ⟨_, _, ⟨T', L', k', n'⟩, -, X', ⟨Lc, hQ, l', y1, z1⟩, st⟩ := X.specialBack C.exec (y := y') hn C.own (mvT C.warm (C.hw _ w1)) (mvT C.warm (C.hw _ w4)) (mvT C.warm (C.hw _ w5)) hy
    (backOf (W := wdt) (M T.heap RR []) C.warm (C.hw _ w5) (C.hw _ w6) hfr hlo) (g := frm b m pc L (as.reverse ++ .ref i :: S)) rfl (by simp [C.ml, hL]) (Steps.refl _) (a := b + i) (argsL := as.map (upV b)) (rest := S.map (upV b)) (lenOf hdesc (by simp [hlen])) (by simp [upV]) (wid_up wdt hwd) (hb C.bys hd) (fun _ _ => ⟨by simp [upV], rfl, hc, hs⟩)
  dsimp only [Pt.U, Pt.locs, Pt.cells, Pt.slots] at X' l' y1 z1 st hQ
  subst l' y1 z1
  obtain ⟨N2, v', H', rfl, RR', hP⟩ := hQ
  refine (h v' H' hP T' _ X' (Fr.app N N2) RR').back fun t k => st.trans ?_
  rw [app_up]
  exact k
theorem go_static {y' : MethodName} {bytes' : ByteArray} {maxL : Nat} {ret' : Option FieldType} {rm : Room} {as : List Value} {idx : Nat} {P : Option Value → List GCell → Prop} {ps : List FieldType} {rt : Option FieldType}
    (hd : Dc bytes pc (.invokestatic idx) 3 nx) (w1 : Jvm.Cond.methodLink y.cls idx y' ∈ W) (w2 : Jvm.Cond.static y' ∈ W) (w5 : Jvm.Cond.code y' bytes' maxL ret' ∈ W) (w6 : Jvm.Cond.initialized y'.cls ∈ W)
    (hy : y'.cls ≠ "java/lang/invoke/MethodHandle" ∧ y'.cls ≠ "java/lang/invoke/VarHandle") (hdesc : parseMethodDescriptor y'.desc = some ⟨ps, rt⟩) (hlen : as.length = ps.length)
    (M : Met l Z a0 b y' bytes' maxL ret' rm as H P) (hS : S' = as.reverse ++ S) (hL : L.length = nL) (wdt : Nat) (hwd : (S.map Value.category).sum ≤ wdt)
    (hfr : rm.frames + 1 ≤ R.frames) (hlo : wdt + (maxL + 11) + rm.locals ≤ R.locals) (hc : cells + rm.cells ≤ R.cells) (hs : slots + rm.slots ≤ R.slots)
    (h : ∀ v H', P v H' → Go C nx L (v.toList ++ S) H' (cells + rm.cells) (slots + rm.slots)) : Go C pc L S' H cells slots := by
  intro T locs X N RR
  obtain ⟨hd, rfl⟩ := hd
  subst hS
  obtain ⟨_, _, ⟨T', L', k', n'⟩, -, X', ⟨Lc, hQ, l', y1, z1⟩, st⟩ := Jvm.LawKit.callS X C.exec (y := y') C.own (mvT C.warm (C.hw _ w1)) (mvT C.warm (C.hw _ w2)) (mvT C.warm (C.hw _ w6)) (mvT C.warm (C.hw _ w5)) hy
    (backOf (W := wdt) (M T.heap RR []) C.warm (C.hw _ w5) (C.hw _ w6) hfr hlo) (g := frm b m pc L (as.reverse ++ S)) rfl (by simp [C.ml, hL]) (argsL := as.map (upV b)) (rest := S.map (upV b)) (lenOf hdesc (by simp [hlen])) (by simp) (wid_up wdt hwd) (hb C.bys hd) (fun _ _ => ⟨by simp, rfl, hc, hs⟩)
  dsimp only [Pt.U, Pt.locs, Pt.cells, Pt.slots] at X' l' y1 z1 st hQ
  subst l' y1 z1
  obtain ⟨N2, v', H', rfl, RR', hP⟩ := hQ
  refine (h v' H' hP T' _ X' (Fr.app N N2) RR').back fun t k => st _ ?_
  rw [app_up]
  exact k
/-! ### the end -/
theorem go_ret {w w' : Value} {t : FieldType} {i : Instr} (hd : Dc bytes pc i 1 nx) (hret : ret = some t) (hn : narrow t (upV b w) = upV b w)
    (hi : (i = .ireturn ∧ (t = .int ∨ t = .boolean ∨ t = .byte ∨ t = .char ∨ t = .short) ∧ ∃ z, w = .int z) ∨ (i = .lreturn ∧ t = .long ∧ ∃ z, w = .long z) ∨ (i = .areturn ∧ t.isReference = true ∧ w.isRef = true))
    (hc : cells ≤ R.cells) (hs : slots ≤ R.slots) (h : Post (some w) H) : Go C pc L (w :: S) H cells slots := by
  intro T locs X N RR
  obtain ⟨fs, hr, hrun, hended, hW, hsame⟩ := X.leave (v := some (upV b w)) (fun q => by rw [C.rets, hret] at q; cases q) C.nolock
  refine ⟨_, _, retOut X C.exec (t := t) (i := i) (C.rets.trans hret) hn ?_ (hb C.bys hd.1) hr, hrun, hended, _, locs, rfl, ⟨N, some w, H, rfl, RR, h⟩, ⟨_, rfl⟩, hW, hsame.mono hc hs⟩
  rcases hi with ⟨h1, h2, z, rfl⟩ | ⟨h1, h2, z, rfl⟩ | ⟨h1, h2, h3⟩
  · exact Or.inl ⟨h1, h2, z, rfl⟩
  · exact Or.inr (Or.inl ⟨h1, h2, z, rfl⟩)
  · exact Or.inr (Or.inr (Or.inr (Or.inr ⟨h1, h2, (isRef_up b w).trans h3⟩)))
theorem go_ireturn {x : Int32} (hd : Dc bytes pc .ireturn 1 nx) (hret : ret = some .int) (hc : cells ≤ R.cells) (hs : slots ≤ R.slots) (h : Post (some (.int x)) H) : Go C pc L (.int x :: S) H cells slots :=
  go_ret (w' := .null) hd hret rfl (Or.inl ⟨rfl, Or.inl rfl, _, rfl⟩) hc hs h
theorem go_zreturn {x : Int32} (hd : Dc bytes pc .ireturn 1 nx) (hret : ret = some .boolean) (hz : x &&& 1 = x) (hc : cells ≤ R.cells) (hs : slots ≤ R.slots) (h : Post (some (.int x)) H) : Go C pc L (.int x :: S) H cells slots :=
  go_ret (w' := .null) hd hret (by show Value.int (x &&& 1) = .int x; rw [hz]) (Or.inl ⟨rfl, Or.inr (Or.inl rfl), _, rfl⟩) hc hs h
theorem go_breturn {x : Int32} (hd : Dc bytes pc .ireturn 1 nx) (hret : ret = some .byte) (hz : x.toInt8.toInt32 = x) (hc : cells ≤ R.cells) (hs : slots ≤ R.slots) (h : Post (some (.int x)) H) : Go C pc L (.int x :: S) H cells slots :=
  go_ret (w' := .null) hd hret (by show Value.int (x.toInt8.toInt32) = .int x; rw [hz]) (Or.inl ⟨rfl, Or.inr (Or.inr (Or.inl rfl)), _, rfl⟩) hc hs h
theorem go_lreturn {x : Int64} (hd : Dc bytes pc .lreturn 1 nx) (hret : ret = some .long) (hc : cells ≤ R.cells) (hs : slots ≤ R.slots) (h : Post (some (.long x)) H) : Go C pc L (.long x :: S) H cells slots :=
  go_ret (w' := .null) hd hret rfl (Or.inr (Or.inl ⟨rfl, rfl, _, rfl⟩)) hc hs h
theorem narrow_ref {t : FieldType} (ht : t.isReference = true) (v : Value) : narrow t v = v := by cases t <;> first | rfl | cases ht
theorem go_areturn {v : Value} {t : FieldType} (hd : Dc bytes pc .areturn 1 nx) (hret : ret = some t) (ht : t.isReference = true) (hv : v.isRef = true) (hc : cells ≤ R.cells) (hs : slots ≤ R.slots) (h : Post (some v) H) : Go C pc L (v :: S) H cells slots :=
  go_ret (w' := .null) hd hret (narrow_ref ht _) (Or.inr (Or.inr ⟨rfl, ht, hv⟩)) hc hs h
theorem go_return (hd : Dc bytes pc .return_ 1 nx) (hret : ret = none) (hc : cells ≤ R.cells) (hs : slots ≤ R.slots) (h : Post none H) : Go C pc L [] H cells slots := by
  intro T locs X N RR
  obtain ⟨fs, hr, hrun, hended, hW, hsame⟩ := X.leave (v := none) (fun _ => rfl) C.nolock
  exact ⟨_, _, X.returnOut C.exec (C.rets.trans hret) (hb C.bys hd.1) hr, hrun, hended, _, locs, rfl, ⟨N, none, H, rfl, RR, h⟩, ⟨_, rfl⟩, hW, hsame.mono hc hs⟩
def fillL : List Value → List Slot
  | [] => []
  | v :: vs => if v.category = 2 then .val v :: .second :: fillL vs else .val v :: fillL vs
def locs0 (as : List Value) (nL : Nat) : List Slot := fillL as ++ List.replicate (nL - (fillL as).length) .unset
theorem fill_foldl (as : List Value) : ∀ acc : Array Slot, (as.map (upV b)).foldl (fun acc v => if v.category = 2 then (acc.push (.val v)).push .second else acc.push (.val v)) acc = acc ++ ((fillL as).map (upS b)).toArray := by
  induction as with
  | nil => intro acc; simp [fillL]
  | cons v vs ih =>
    intro acc
    simp only [List.map_cons, List.foldl_cons, cat_up, fillL]
    by_cases q : v.category = 2
    · rw [if_pos q, if_pos q, ih]
      simp [upS, ← Array.toList_inj]
    · rw [if_neg q, if_neg q, ih]
      simp [upS, ← Array.toList_inj]
theorem entry_up (m : MethodId) (as : List Value) (nL : Nat) : entryFrame m (as.map (upV b)).toArray nL = frm b m 0 (locs0 as nL) [] := by
  have e := fill_foldl (b := b) as #[]
  have e1 : argsToLocals (as.map (upV b)).toArray nL = ((locs0 as nL).map (upS b)).toArray := by
    simp only [argsToLocals, List.foldl_toArray', List.size_toArray, List.foldl_toArray]
    rw [e]
    simp [locs0, upS, ← Array.toList_inj]
  simp [entryFrame, e1]
end Walk
theorem Met.of_go {l : Launch} {Z : State} {a0 : Array Value} {W : List Jvm.Cond} {b : Nat} {y : MethodName} {bytes : ByteArray} {nL : Nat} {ret : Option FieldType} {rm : Room} {as : List Value} {H : List GCell} {Post : Option Value → List GCell → Prop} (hw : ∀ d ∈ W, d.before a0 Z = true) (hp : plainFor y = true) {L0 : List Slot} (hL : locs0 as nL = L0)
    (body : ∀ p e s m args below meth c (C : Cx p l e rm s m args below meth c Z a0 W b y bytes nL ret Post), Go C 0 L0 [] H 0 0) : Met l Z a0 b y bytes nL ret rm as H Post := by
  intro h RR ws
  refine MetFree.of_bodySF hp hisR ?_
  intro p e s m args below meth c s₁ Bd hml0 hP hK
  obtain ⟨rfl, hZ, hh⟩ := hP
  have C : Cx p l e rm s m (as.map (upV b)).toArray below meth c Z a0 W b y bytes nL ret Post := ⟨Bd.exec, hZ, findClass_of_methodNamed Bd.named, Bd.bytes, hml0, Bd.returns, Bd.notSynchronized, (name_of_methodNamed Bd.named Bd.method).1, hw⟩
  have X0 : Stand p l e rm s m (as.map (upV b)).toArray below meth c s₁ [] 0 0 := Stand.of_body Bd
  have e0 : s₁.heap = h := by rw [← hh, Bd.state]; rfl
  have g := body p e s m _ below meth c C s₁ [] X0 (Fr.nil b) (by rw [e0]; exact RR)
  obtain ⟨s₂, o, hs, hr⟩ := g
  refine ⟨s₂, o, ?_, hr⟩
  rw [entry_up, hL]
  exact hs
section Places
variable {p : Program} {l : Launch} {e : Env} {R : Room} {s : State} {m : MethodId} {args : Array Value} {below : List Frame} {meth : Method} {c : Code} {Z : State} {a0 : Array Value} {W : List Jvm.Cond} {b : Nat} {y : MethodName} {bytes : ByteArray} {nL : Nat} {ret : Option FieldType} {Post : Option Value → List GCell → Prop} {C : Cx p l e R s m args below meth c Z a0 W b y bytes nL ret Post} {pc nx tg : Nat} {L L' : List Slot} {S S' : List Value} {H H' : List GCell} {cells slots : Nat}
theorem go_istore_1 {s0 o : Slot} {x : Int32} (hd : Dc bytes pc (.istore_n 1) 1 nx) (ho : oneS o = true) (h : Go C nx (s0 :: .val (.int x) :: L) S H cells slots) : Go C pc (s0 :: o :: L) (.int x :: S) H cells slots := go_istoreN hd rfl ho h
theorem go_istoreX_2 {s0 s1 o : Slot} {x : Int32} (hd : Dc bytes pc (.istore_n 2) 1 nx) (ho : oneS o = true) (h : ∀ x', x' = x → Go C nx (s0 :: s1 :: .val (.int x') :: L) S H cells slots) : Go C pc (s0 :: s1 :: o :: L) (.int x :: S) H cells slots := go_istoreN hd rfl ho (h x rfl)
theorem go_istoreX_5 {s0 s1 s2 s3 s4 o : Slot} {x : Int32} (hd : Dc bytes pc (.istore 5) 2 nx) (ho : oneS o = true) (h : ∀ x', x' = x → Go C nx (s0 :: s1 :: s2 :: s3 :: s4 :: .val (.int x') :: L) S H cells slots) : Go C pc (s0 :: s1 :: s2 :: s3 :: s4 :: o :: L) (.int x :: S) H cells slots := go_istore hd rfl ho (h x rfl)
theorem go_istore_6 {s0 s1 s2 s3 s4 s5 o : Slot} {x : Int32} (hd : Dc bytes pc (.istore 6) 2 nx) (ho : oneS o = true) (h : Go C nx (s0 :: s1 :: s2 :: s3 :: s4 :: s5 :: .val (.int x) :: L) S H cells slots) : Go C pc (s0 :: s1 :: s2 :: s3 :: s4 :: s5 :: o :: L) (.int x :: S) H cells slots := go_istore hd rfl ho h
theorem go_istore_7 {s0 s1 s2 s3 s4 s5 s6 o : Slot} {x : Int32} (hd : Dc bytes pc (.istore 7) 2 nx) (ho : oneS o = true) (h : Go C nx (s0 :: s1 :: s2 :: s3 :: s4 :: s5 :: s6 :: .val (.int x) :: L) S H cells slots) : Go C pc (s0 :: s1 :: s2 :: s3 :: s4 :: s5 :: s6 :: o :: L) (.int x :: S) H cells slots := go_istore hd rfl ho h
theorem go_istore_8 {s0 s1 s2 s3 s4 s5 s6 s7 o : Slot} {x : Int32} (hd : Dc bytes pc (.istore 8) 2 nx) (ho : oneS o = true) (h : Go C nx (s0 :: s1 :: s2 :: s3 :: s4 :: s5 :: s6 :: s7 :: .val (.int x) :: L) S H cells slots) : Go C pc (s0 :: s1 :: s2 :: s3 :: s4 :: s5 :: s6 :: s7 :: o :: L) (.int x :: S) H cells slots := go_istore hd rfl ho h
theorem go_istore_9 {s0 s1 s2 s3 s4 s5 s6 s7 s8 o : Slot} {x : Int32} (hd : Dc bytes pc (.istore 9) 2 nx) (ho : oneS o = true) (h : Go C nx (s0 :: s1 :: s2 :: s3 :: s4 :: s5 :: s6 :: s7 :: s8 :: .val (.int x) :: L) S H cells slots) : Go C pc (s0 :: s1 :: s2 :: s3 :: s4 :: s5 :: s6 :: s7 :: s8 :: o :: L) (.int x :: S) H cells slots := go_istore hd rfl ho h
theorem go_astore_10 {s0 s1 s2 s3 s4 s5 s6 s7 s8 s9 o : Slot} {v : Value} (hd : Dc bytes pc (.astore 10) 2 nx) (ho : oneS o = true) (hv : v.isRef = true) (h : Go C nx (s0 :: s1 :: s2 :: s3 :: s4 :: s5 :: s6 :: s7 :: s8 :: s9 :: .val v :: L) S H cells slots) : Go C pc (s0 :: s1 :: s2 :: s3 :: s4 :: s5 :: s6 :: s7 :: s8 :: s9 :: o :: L) (v :: S) H cells slots := go_astore hd rfl ho hv h
theorem go_istore_11 {s0 s1 s2 s3 s4 s5 s6 s7 s8 s9 s10 o : Slot} {x : Int32} (hd : Dc bytes pc (.istore 11) 2 nx) (ho : oneS o = true) (h : Go C nx (s0 :: s1 :: s2 :: s3 :: s4 :: s5 :: s6 :: s7 :: s8 :: s9 :: s10 :: .val (.int x) :: L) S H cells slots) : Go C pc (s0 :: s1 :: s2 :: s3 :: s4 :: s5 :: s6 :: s7 :: s8 :: s9 :: s10 :: o :: L) (.int x :: S) H cells slots := go_istore hd rfl ho h
theorem go_iinc_11 {s0 s1 s2 s3 s4 s5 s6 s7 s8 s9 s10 : Slot} {x z : Int32} {i : Int} (hd : Dc bytes pc (.iinc 11 i) 3 nx) (hz : Int32.ofInt i = z) (h : Go C nx (s0 :: s1 :: s2 :: s3 :: s4 :: s5 :: s6 :: s7 :: s8 :: s9 :: s10 :: .val (.int (x + z)) :: L) S H cells slots) : Go C pc (s0 :: s1 :: s2 :: s3 :: s4 :: s5 :: s6 :: s7 :: s8 :: s9 :: s10 :: .val (.int x) :: L) S H cells slots := go_iinc hd rfl hz h
theorem go_astore_12 {s0 s1 s2 s3 s4 s5 s6 s7 s8 s9 s10 s11 o : Slot} {v : Value} (hd : Dc bytes pc (.astore 12) 2 nx) (ho : oneS o = true) (hv : v.isRef = true) (h : Go C nx (s0 :: s1 :: s2 :: s3 :: s4 :: s5 :: s6 :: s7 :: s8 :: s9 :: s10 :: s11 :: .val v :: L) S H cells slots) : Go C pc (s0 :: s1 :: s2 :: s3 :: s4 :: s5 :: s6 :: s7 :: s8 :: s9 :: s10 :: s11 :: o :: L) (v :: S) H cells slots := go_astore hd rfl ho hv h
theorem go_istore_13 {s0 s1 s2 s3 s4 s5 s6 s7 s8 s9 s10 s11 s12 o : Slot} {x : Int32} (hd : Dc bytes pc (.istore 13) 2 nx) (ho : oneS o = true) (h : Go C nx (s0 :: s1 :: s2 :: s3 :: s4 :: s5 :: s6 :: s7 :: s8 :: s9 :: s10 :: s11 :: s12 :: .val (.int x) :: L) S H cells slots) : Go C pc (s0 :: s1 :: s2 :: s3 :: s4 :: s5 :: s6 :: s7 :: s8 :: s9 :: s10 :: s11 :: s12 :: o :: L) (.int x :: S) H cells slots := go_istore hd rfl ho h
theorem go_istore_14 {s0 s1 s2 s3 s4 s5 s6 s7 s8 s9 s10 s11 s12 s13 o : Slot} {x : Int32} (hd : Dc bytes pc (.istore 14) 2 nx) (ho : oneS o = true) (h : Go C nx (s0 :: s1 :: s2 :: s3 :: s4 :: s5 :: s6 :: s7 :: s8 :: s9 :: s10 :: s11 :: s12 :: s13 :: .val (.int x) :: L) S H cells slots) : Go C pc (s0 :: s1 :: s2 :: s3 :: s4 :: s5 :: s6 :: s7 :: s8 :: s9 :: s10 :: s11 :: s12 :: s13 :: o :: L) (.int x :: S) H cells slots := go_istore hd rfl ho h
theorem go_istore_15 {s0 s1 s2 s3 s4 s5 s6 s7 s8 s9 s10 s11 s12 s13 s14 o : Slot} {x : Int32} (hd : Dc bytes pc (.istore 15) 2 nx) (ho : oneS o = true) (h : Go C nx (s0 :: s1 :: s2 :: s3 :: s4 :: s5 :: s6 :: s7 :: s8 :: s9 :: s10 :: s11 :: s12 :: s13 :: s14 :: .val (.int x) :: L) S H cells slots) : Go C pc (s0 :: s1 :: s2 :: s3 :: s4 :: s5 :: s6 :: s7 :: s8 :: s9 :: s10 :: s11 :: s12 :: s13 :: s14 :: o :: L) (.int x :: S) H cells slots := go_istore hd rfl ho h
theorem go_virtual_0 {y' : MethodName} {bytes' : ByteArray} {maxL : Nat} {ret' : Option FieldType} {rm : Room} {i idx : Nat} {Cn : String} {fs : List (String × String × Value)} {P : Value → List GCell → Prop} {ps : List FieldType} {rt : Option FieldType} (hd : Dc bytes pc (.invokevirtual idx) 3 nx) (w1 : Jvm.Cond.methodLink y.cls idx y' ∈ W) (w2 : Jvm.Cond.declares y' ∈ W) (w3 : Jvm.Cond.selects Cn y' y' ∈ W) (w4 : Jvm.Cond.instanceMethod y' ∈ W) (w5 : Jvm.Cond.code y' bytes' maxL ret' ∈ W) (w6 : Jvm.Cond.initialized y'.cls ∈ W) (hy : y'.cls ≠ "java/lang/invoke/MethodHandle" ∧ y'.cls ≠ "java/lang/invoke/VarHandle") (hdesc : parseMethodDescriptor y'.desc = some ⟨ps, rt⟩) (hlen : ps.length = 0)
    (M : Met l Z a0 b y' bytes' maxL ret' rm (.ref i :: []) H (fun v H' => ∃ w, v = some w ∧ P w H')) (hH : H[i]? = some (ob Cn fs)) (hL : L.length = nL) (wdt : Nat) (hwd : (S.map Value.category).sum = wdt) (hfr : rm.frames + 1 ≤ R.frames) (hlo : wdt + (maxL + 11) + rm.locals ≤ R.locals) (hc : cells + rm.cells ≤ R.cells) (hs : slots + rm.slots ≤ R.slots)
    (h : ∀ w H', P w H' → Go C nx L (w :: S) H' (cells + rm.cells) (slots + rm.slots)) : Go C pc L (.ref i :: S) H cells slots :=
  go_virtual hd w1 w2 w3 w4 w5 w6 hy hdesc (as := []) (by rw [hlen]; rfl) M hH rfl hL wdt (Nat.le_of_eq hwd) hfr hlo hc hs (fun v H' q => by obtain ⟨w, rfl, q⟩ := q; exact h w H' q)
theorem go_virtualV_1 {a1 : Value} {y' : MethodName} {bytes' : ByteArray} {maxL : Nat} {ret' : Option FieldType} {rm : Room} {i idx : Nat} {Cn : String} {fs : List (String × String × Value)} {P : List GCell → Prop} {ps : List FieldType} {rt : Option FieldType} (hd : Dc bytes pc (.invokevirtual idx) 3 nx) (w1 : Jvm.Cond.methodLink y.cls idx y' ∈ W) (w2 : Jvm.Cond.declares y' ∈ W) (w3 : Jvm.Cond.selects Cn y' y' ∈ W) (w4 : Jvm.Cond.instanceMethod y' ∈ W) (w5 : Jvm.Cond.code y' bytes' maxL ret' ∈ W) (w6 : Jvm.Cond.initialized y'.cls ∈ W) (hy : y'.cls ≠ "java/lang/invoke/MethodHandle" ∧ y'.cls ≠ "java/lang/invoke/VarHandle") (hdesc : parseMethodDescriptor y'.desc = some ⟨ps, rt⟩) (hlen : ps.length = 1)
    (M : Met l Z a0 b y' bytes' maxL ret' rm (.ref i :: [a1]) H (fun v H' => v = none ∧ P H')) (hH : H[i]? = some (ob Cn fs)) (hL : L.length = nL) (wdt : Nat) (hwd : (S.map Value.category).sum = wdt) (hfr : rm.frames + 1 ≤ R.frames) (hlo : wdt + (maxL + 11) + rm.locals ≤ R.locals) (hc : cells + rm.cells ≤ R.cells) (hs : slots + rm.slots ≤ R.slots)
    (h : ∀ H', P H' → Go C nx L S H' (cells + rm.cells) (slots + rm.slots)) : Go C pc L (a1 :: .ref i :: S) H cells slots :=
  go_virtual hd w1 w2 w3 w4 w5 w6 hy hdesc (as := [a1]) (by rw [hlen]; rfl) M hH rfl hL wdt (Nat.le_of_eq hwd) hfr hlo hc hs (fun v H' q => by obtain ⟨rfl, q⟩ := q; exact h H' q)
theorem go_specialV_1 {a1 : Value} {y' : MethodName} {bytes' : ByteArray} {maxL : Nat} {rm : Room} {i idx : Nat} {P : List GCell → Prop} {ps : List FieldType} {rt : Option FieldType} (hn : y'.name = "<init>") (hd : Dc bytes pc (.invokespecial idx) 3 nx) (w1 : Jvm.Cond.methodLink y.cls idx y' ∈ W) (w4 : Jvm.Cond.instanceMethod y' ∈ W) (w5 : Jvm.Cond.code y' bytes' maxL none ∈ W) (w6 : Jvm.Cond.initialized y'.cls ∈ W) (hy : y'.cls ≠ "java/lang/invoke/MethodHandle" ∧ y'.cls ≠ "java/lang/invoke/VarHandle") (hdesc : parseMethodDescriptor y'.desc = some ⟨ps, rt⟩) (hlen : ps.length = 1)
    (M : Met l Z a0 b y' bytes' maxL none rm (.ref i :: [a1]) H (fun v H' => v = none ∧ P H')) (hL : L.length = nL) (wdt : Nat) (hwd : (S.map Value.category).sum = wdt) (hfr : rm.frames + 1 ≤ R.frames) (hlo : wdt + (maxL + 11) + rm.locals ≤ R.locals) (hc : cells + rm.cells ≤ R.cells) (hs : slots + rm.slots ≤ R.slots)
    (h : ∀ H', P H' → Go C nx L S H' (cells + rm.cells) (slots + rm.slots)) : Go C pc L (a1 :: .ref i :: S) H cells slots :=
  go_special hn hd w1 w4 w5 w6 hy hdesc (as := [a1]) (by rw [hlen]; rfl) M rfl hL wdt (Nat.le_of_eq hwd) hfr hlo hc hs (fun v H' q => by obtain ⟨rfl, q⟩ := q; exact h H' q)
theorem go_static_2 {a1 a2 : Value} {y' : MethodName} {bytes' : ByteArray} {maxL : Nat} {ret' : Option FieldType} {rm : Room} {idx : Nat} {P : Value → List GCell → Prop} {ps : List FieldType} {rt : Option FieldType} (hd : Dc bytes pc (.invokestatic idx) 3 nx) (w1 : Jvm.Cond.methodLink y.cls idx y' ∈ W) (w2 : Jvm.Cond.static y' ∈ W) (w5 : Jvm.Cond.code y' bytes' maxL ret' ∈ W) (w6 : Jvm.Cond.initialized y'.cls ∈ W) (hy : y'.cls ≠ "java/lang/invoke/MethodHandle" ∧ y'.cls ≠ "java/lang/invoke/VarHandle") (hdesc : parseMethodDescriptor y'.desc = some ⟨ps, rt⟩) (hlen : ps.length = 2)
    (M : Met l Z a0 b y' bytes' maxL ret' rm [a1, a2] H (fun v H' => ∃ w, v = some w ∧ P w H')) (hL : L.length = nL) (wdt : Nat) (hwd : (S.map Value.category).sum = wdt) (hfr : rm.frames + 1 ≤ R.frames) (hlo : wdt + (maxL + 11) + rm.locals ≤ R.locals) (hc : cells + rm.cells ≤ R.cells) (hs : slots + rm.slots ≤ R.slots)
    (h : ∀ w H', P w H' → Go C nx L (w :: S) H' (cells + rm.cells) (slots + rm.slots)) : Go C pc L (a2 :: a1 :: S) H cells slots :=
  go_static hd w1 w2 w5 w6 hy hdesc (as := [a1, a2]) (by rw [hlen]; rfl) M rfl hL wdt (Nat.le_of_eq hwd) hfr hlo hc hs (fun v H' q => by obtain ⟨w, rfl, q⟩ := q; exact h w H' q)
end Places
end Jvm.GoKit

namespace Jvm.Pilot.@@N@@
open Jvm Jvm.ClassFile Sem Op Lib Jvm.Free Jvm.Stand Jvm.LawKit Jvm.RoadKit Bundle Jvm.GoKit Jvm.Pilot.@@N@@.Jvm.D
theorem e0_0 : Dc code 0 (.iconst 1) 1 1 := ⟨at_0, rfl⟩
theorem e0_1 : Dc code 1 (.iload_n 0) 1 2 := ⟨at_1, rfl⟩
theorem e0_2 : Dc code 2 (.iconst 3) 1 3 := ⟨at_2, rfl⟩
theorem e0_3 : Dc code 3 (.iand) 1 4 := ⟨at_3, rfl⟩
theorem e0_4 : Dc code 4 (.iadd) 1 5 := ⟨at_4, rfl⟩
theorem e0_5 : Dc code 5 (.istore 5) 2 7 := ⟨at_5, rfl⟩
theorem e0_7 : Dc code 7 (.iload_n 1) 1 8 := ⟨at_7, rfl⟩
theorem e0_8 : Dc code 8 (.iload 5) 2 10 := ⟨at_8, rfl⟩
theorem e0_10 : Dc code 10 (.invokestatic 8) 3 13 := ⟨at_10, rfl⟩
theorem e0_13 : Dc code 13 (.istore 6) 2 15 := ⟨at_13, rfl⟩
theorem e0_15 : Dc code 15 (.iload_n 2) 1 16 := ⟨at_15, rfl⟩
theorem e0_16 : Dc code 16 (.iload 5) 2 18 := ⟨at_16, rfl⟩
theorem e0_18 : Dc code 18 (.invokestatic 8) 3 21 := ⟨at_18, rfl⟩
theorem e0_21 : Dc code 21 (.istore 7) 2 23 := ⟨at_21, rfl⟩
theorem e0_23 : Dc code 23 (.iload_n 3) 1 24 := ⟨at_23, rfl⟩
theorem e0_24 : Dc code 24 (.iload 5) 2 26 := ⟨at_24, rfl⟩
theorem e0_26 : Dc code 26 (.invokestatic 8) 3 29 := ⟨at_26, rfl⟩
theorem e0_29 : Dc code 29 (.istore 8) 2 31 := ⟨at_29, rfl⟩
theorem e0_31 : Dc code 31 (.iload 4) 2 33 := ⟨at_31, rfl⟩
theorem e0_33 : Dc code 33 (.iload 5) 2 35 := ⟨at_33, rfl⟩
theorem e0_35 : Dc code 35 (.invokestatic 8) 3 38 := ⟨at_35, rfl⟩
theorem e0_38 : Dc code 38 (.istore 9) 2 40 := ⟨at_38, rfl⟩
theorem e0_40 : Dc code 40 (.iconst 3) 1 41 := ⟨at_40, rfl⟩
theorem e0_41 : Dc code 41 (.newarray .int) 2 43 := ⟨at_41, rfl⟩
theorem e0_43 : Dc code 43 (.astore 10) 2 45 := ⟨at_43, rfl⟩
theorem e0_45 : Dc code 45 (.iconst 1) 1 46 := ⟨at_45, rfl⟩
theorem e0_46 : Dc code 46 (.istore 11) 2 48 := ⟨at_46, rfl⟩
theorem e0_48 : Dc code 48 (.aload 10) 2 50 := ⟨at_48, rfl⟩
theorem e0_50 : Dc code 50 (.iconst 0) 1 51 := ⟨at_50, rfl⟩
theorem e0_51 : Dc code 51 (.iload 7) 2 53 := ⟨at_51, rfl⟩
theorem e0_53 : Dc code 53 (.iastore) 1 54 := ⟨at_53, rfl⟩
theorem e0_54 : Dc code 54 (.iload 8) 2 56 := ⟨at_54, rfl⟩
theorem e0_56 : Dc code 56 (.iload 7) 2 58 := ⟨at_56, rfl⟩
theorem e0_58 : Dc code 58 (.if_icmp .eq 13) 3 61 := ⟨at_58, rfl⟩
theorem e0_61 : Dc code 61 (.aload 10) 2 63 := ⟨at_61, rfl⟩
theorem e0_63 : Dc code 63 (.iload 11) 2 65 := ⟨at_63, rfl⟩
theorem e0_65 : Dc code 65 (.iload 8) 2 67 := ⟨at_65, rfl⟩
theorem e0_67 : Dc code 67 (.iastore) 1 68 := ⟨at_67, rfl⟩
theorem e0_68 : Dc code 68 (.iinc 11 1) 3 71 := ⟨at_68, rfl⟩
theorem e0_71 : Dc code 71 (.iload 9) 2 73 := ⟨at_71, rfl⟩
theorem e0_73 : Dc code 73 (.iload 7) 2 75 := ⟨at_73, rfl⟩
theorem e0_75 : Dc code 75 (.if_icmp .eq 20) 3 78 := ⟨at_75, rfl⟩
theorem e0_78 : Dc code 78 (.iload 9) 2 80 := ⟨at_78, rfl⟩
theorem e0_80 : Dc code 80 (.iload 8) 2 82 := ⟨at_80, rfl⟩
theorem e0_82 : Dc code 82 (.if_icmp .eq 13) 3 85 := ⟨at_82, rfl⟩
theorem e0_85 : Dc code 85 (.aload 10) 2 87 := ⟨at_85, rfl⟩
theorem e0_87 : Dc code 87 (.iload 11) 2 89 := ⟨at_87, rfl⟩
theorem e0_89 : Dc code 89 (.iload 9) 2 91 := ⟨at_89, rfl⟩
theorem e0_91 : Dc code 91 (.iastore) 1 92 := ⟨at_91, rfl⟩
theorem e0_92 : Dc code 92 (.iinc 11 1) 3 95 := ⟨at_92, rfl⟩
theorem e0_95 : Dc code 95 (.new 14) 3 98 := ⟨at_95, rfl⟩
theorem e0_98 : Dc code 98 (.dup) 1 99 := ⟨at_98, rfl⟩
theorem e0_99 : Dc code 99 (.iload 5) 2 101 := ⟨at_99, rfl⟩
theorem e0_101 : Dc code 101 (.invokespecial 16) 3 104 := ⟨at_101, rfl⟩
theorem e0_104 : Dc code 104 (.astore 12) 2 106 := ⟨at_104, rfl⟩
theorem e0_106 : Dc code 106 (.aload 12) 2 108 := ⟨at_106, rfl⟩
theorem e0_108 : Dc code 108 (.iload 6) 2 110 := ⟨at_108, rfl⟩
theorem e0_110 : Dc code 110 (.invokevirtual 19) 3 113 := ⟨at_110, rfl⟩
theorem e0_113 : Dc code 113 (.aload 12) 2 115 := ⟨at_113, rfl⟩
theorem e0_115 : Dc code 115 (.invokevirtual 22) 3 118 := ⟨at_115, rfl⟩
theorem e0_118 : Dc code 118 (.istore 13) 2 120 := ⟨at_118, rfl⟩
theorem e0_120 : Dc code 120 (.iload 13) 2 122 := ⟨at_120, rfl⟩
theorem e0_122 : Dc code 122 (.iload 6) 2 124 := ⟨at_122, rfl⟩
theorem e0_124 : Dc code 124 (.if_icmp .eq 5) 3 127 := ⟨at_124, rfl⟩
theorem e0_129 : Dc code 129 (.aload 12) 2 131 := ⟨at_129, rfl⟩
theorem e0_131 : Dc code 131 (.iload 7) 2 133 := ⟨at_131, rfl⟩
theorem e0_133 : Dc code 133 (.invokevirtual 19) 3 136 := ⟨at_133, rfl⟩
theorem e0_136 : Dc code 136 (.aload 12) 2 138 := ⟨at_136, rfl⟩
theorem e0_138 : Dc code 138 (.iload 8) 2 140 := ⟨at_138, rfl⟩
theorem e0_140 : Dc code 140 (.invokevirtual 19) 3 143 := ⟨at_140, rfl⟩
theorem e0_143 : Dc code 143 (.aload 12) 2 145 := ⟨at_143, rfl⟩
theorem e0_145 : Dc code 145 (.iload 9) 2 147 := ⟨at_145, rfl⟩
theorem e0_147 : Dc code 147 (.invokevirtual 19) 3 150 := ⟨at_147, rfl⟩
theorem e0_150 : Dc code 150 (.aload 12) 2 152 := ⟨at_150, rfl⟩
theorem e0_152 : Dc code 152 (.invokevirtual 22) 3 155 := ⟨at_152, rfl⟩
theorem e0_155 : Dc code 155 (.istore 14) 2 157 := ⟨at_155, rfl⟩
theorem e0_157 : Dc code 157 (.iload 14) 2 159 := ⟨at_157, rfl⟩
theorem e0_159 : Dc code 159 (.aload 10) 2 161 := ⟨at_159, rfl⟩
theorem e0_161 : Dc code 161 (.iconst 0) 1 162 := ⟨at_161, rfl⟩
theorem e0_162 : Dc code 162 (.iaload) 1 163 := ⟨at_162, rfl⟩
theorem e0_163 : Dc code 163 (.if_icmp .eq 5) 3 166 := ⟨at_163, rfl⟩
theorem e0_168 : Dc code 168 (.iload 11) 2 170 := ⟨at_168, rfl⟩
theorem e0_170 : Dc code 170 (.iconst 2) 1 171 := ⟨at_170, rfl⟩
theorem e0_171 : Dc code 171 (.if_icmp .lt 21) 3 174 := ⟨at_171, rfl⟩
theorem e0_174 : Dc code 174 (.aload 12) 2 176 := ⟨at_174, rfl⟩
theorem e0_176 : Dc code 176 (.invokevirtual 22) 3 179 := ⟨at_176, rfl⟩
theorem e0_179 : Dc code 179 (.istore 15) 2 181 := ⟨at_179, rfl⟩
theorem e0_181 : Dc code 181 (.iload 15) 2 183 := ⟨at_181, rfl⟩
theorem e0_183 : Dc code 183 (.aload 10) 2 185 := ⟨at_183, rfl⟩
theorem e0_185 : Dc code 185 (.iconst 1) 1 186 := ⟨at_185, rfl⟩
theorem e0_186 : Dc code 186 (.iaload) 1 187 := ⟨at_186, rfl⟩
theorem e0_187 : Dc code 187 (.if_icmp .eq 5) 3 190 := ⟨at_187, rfl⟩
theorem e0_192 : Dc code 192 (.iload 11) 2 194 := ⟨at_192, rfl⟩
theorem e0_194 : Dc code 194 (.iconst 3) 1 195 := ⟨at_194, rfl⟩
theorem e0_195 : Dc code 195 (.if_icmp .lt 21) 3 198 := ⟨at_195, rfl⟩
theorem e0_198 : Dc code 198 (.aload 12) 2 200 := ⟨at_198, rfl⟩
theorem e0_200 : Dc code 200 (.invokevirtual 22) 3 203 := ⟨at_200, rfl⟩
theorem e0_203 : Dc code 203 (.istore 15) 2 205 := ⟨at_203, rfl⟩
theorem e0_205 : Dc code 205 (.iload 15) 2 207 := ⟨at_205, rfl⟩
theorem e0_207 : Dc code 207 (.aload 10) 2 209 := ⟨at_207, rfl⟩
theorem e0_209 : Dc code 209 (.iconst 2) 1 210 := ⟨at_209, rfl⟩
theorem e0_210 : Dc code 210 (.iaload) 1 211 := ⟨at_210, rfl⟩
theorem e0_211 : Dc code 211 (.if_icmp .eq 5) 3 214 := ⟨at_211, rfl⟩
theorem e0_216 : Dc code 216 (.aload 12) 2 218 := ⟨at_216, rfl⟩
theorem e0_218 : Dc code 218 (.invokevirtual 26) 3 221 := ⟨at_218, rfl⟩
theorem e0_221 : Dc code 221 (.ireturn) 1 222 := ⟨at_221, rfl⟩
theorem e1_0 : Dc method_2_code 0 (.iload_n 0) 1 1 := ⟨by decide +kernel, rfl⟩
theorem e1_1 : Dc method_2_code 1 (.ldc 7) 2 3 := ⟨by decide +kernel, rfl⟩
theorem e1_3 : Dc method_2_code 3 (.iand) 1 4 := ⟨by decide +kernel, rfl⟩
theorem e1_4 : Dc method_2_code 4 (.iload_n 1) 1 5 := ⟨by decide +kernel, rfl⟩
theorem e1_5 : Dc method_2_code 5 (.irem) 1 6 := ⟨by decide +kernel, rfl⟩
theorem e1_6 : Dc method_2_code 6 (.ireturn) 1 7 := ⟨by decide +kernel, rfl⟩
theorem e2_0 : Dc prog_28_method_1_code 0 (.aload_n 0) 1 1 := ⟨by decide +kernel, rfl⟩
theorem e2_1 : Dc prog_28_method_1_code 1 (.invokespecial 1) 3 4 := ⟨by decide +kernel, rfl⟩
theorem e2_4 : Dc prog_28_method_1_code 4 (.aload_n 0) 1 5 := ⟨by decide +kernel, rfl⟩
theorem e2_5 : Dc prog_28_method_1_code 5 (.iload_n 1) 1 6 := ⟨by decide +kernel, rfl⟩
theorem e2_6 : Dc prog_28_method_1_code 6 (.newarray .int) 2 8 := ⟨by decide +kernel, rfl⟩
theorem e2_8 : Dc prog_28_method_1_code 8 (.putfield 7) 3 11 := ⟨by decide +kernel, rfl⟩
theorem e2_11 : Dc prog_28_method_1_code 11 (.aload_n 0) 1 12 := ⟨by decide +kernel, rfl⟩
theorem e2_12 : Dc prog_28_method_1_code 12 (.iload_n 1) 1 13 := ⟨by decide +kernel, rfl⟩
theorem e2_13 : Dc prog_28_method_1_code 13 (.newarray .boolean) 2 15 := ⟨by decide +kernel, rfl⟩
theorem e2_15 : Dc prog_28_method_1_code 15 (.putfield 13) 3 18 := ⟨by decide +kernel, rfl⟩
theorem e2_18 : Dc prog_28_method_1_code 18 (.return_) 1 19 := ⟨by decide +kernel, rfl⟩
theorem e4_0 : Dc prog_28_method_3_code 0 (.aload_n 0) 1 1 := ⟨by decide +kernel, rfl⟩
theorem e4_1 : Dc prog_28_method_3_code 1 (.getfield 13) 3 4 := ⟨by decide +kernel, rfl⟩
theorem e4_4 : Dc prog_28_method_3_code 4 (.iload_n 1) 1 5 := ⟨by decide +kernel, rfl⟩
theorem e4_5 : Dc prog_28_method_3_code 5 (.baload) 1 6 := ⟨by decide +kernel, rfl⟩
theorem e4_6 : Dc prog_28_method_3_code 6 (.ifCond .eq 4) 3 9 := ⟨by decide +kernel, rfl⟩
theorem e4_9 : Dc prog_28_method_3_code 9 (.return_) 1 10 := ⟨by decide +kernel, rfl⟩
theorem e4_10 : Dc prog_28_method_3_code 10 (.aload_n 0) 1 11 := ⟨by decide +kernel, rfl⟩
theorem e4_11 : Dc prog_28_method_3_code 11 (.getfield 13) 3 14 := ⟨by decide +kernel, rfl⟩
theorem e4_14 : Dc prog_28_method_3_code 14 (.iload_n 1) 1 15 := ⟨by decide +kernel, rfl⟩
theorem e4_15 : Dc prog_28_method_3_code 15 (.iconst 1) 1 16 := ⟨by decide +kernel, rfl⟩
theorem e4_16 : Dc prog_28_method_3_code 16 (.bastore) 1 17 := ⟨by decide +kernel, rfl⟩
theorem e4_17 : Dc prog_28_method_3_code 17 (.aload_n 0) 1 18 := ⟨by decide +kernel, rfl⟩
theorem e4_18 : Dc prog_28_method_3_code 18 (.getfield 21) 3 21 := ⟨by decide +kernel, rfl⟩
theorem e4_21 : Dc prog_28_method_3_code 21 (.aload_n 0) 1 22 := ⟨by decide +kernel, rfl⟩
theorem e4_22 : Dc prog_28_method_3_code 22 (.getfield 17) 3 25 := ⟨by decide +kernel, rfl⟩
theorem e4_25 : Dc prog_28_method_3_code 25 (.iadd) 1 26 := ⟨by decide +kernel, rfl⟩
theorem e4_26 : Dc prog_28_method_3_code 26 (.istore_n 2) 1 27 := ⟨by decide +kernel, rfl⟩
theorem e4_27 : Dc prog_28_method_3_code 27 (.aload_n 0) 1 28 := ⟨by decide +kernel, rfl⟩
theorem e4_28 : Dc prog_28_method_3_code 28 (.getfield 7) 3 31 := ⟨by decide +kernel, rfl⟩
theorem e4_31 : Dc prog_28_method_3_code 31 (.iload_n 2) 1 32 := ⟨by decide +kernel, rfl⟩
theorem e4_32 : Dc prog_28_method_3_code 32 (.aload_n 0) 1 33 := ⟨by decide +kernel, rfl⟩
theorem e4_33 : Dc prog_28_method_3_code 33 (.getfield 7) 3 36 := ⟨by decide +kernel, rfl⟩
theorem e4_36 : Dc prog_28_method_3_code 36 (.arraylength) 1 37 := ⟨by decide +kernel, rfl⟩
theorem e4_37 : Dc prog_28_method_3_code 37 (.if_icmp .ge 7) 3 40 := ⟨by decide +kernel, rfl⟩
theorem e4_40 : Dc prog_28_method_3_code 40 (.iload_n 2) 1 41 := ⟨by decide +kernel, rfl⟩
theorem e4_41 : Dc prog_28_method_3_code 41 (.goto 10) 3 44 := ⟨by decide +kernel, rfl⟩
theorem e4_44 : Dc prog_28_method_3_code 44 (.iload_n 2) 1 45 := ⟨by decide +kernel, rfl⟩
theorem e4_45 : Dc prog_28_method_3_code 45 (.aload_n 0) 1 46 := ⟨by decide +kernel, rfl⟩
theorem e4_46 : Dc prog_28_method_3_code 46 (.getfield 7) 3 49 := ⟨by decide +kernel, rfl⟩
theorem e4_49 : Dc prog_28_method_3_code 49 (.arraylength) 1 50 := ⟨by decide +kernel, rfl⟩
theorem e4_50 : Dc prog_28_method_3_code 50 (.isub) 1 51 := ⟨by decide +kernel, rfl⟩
theorem e4_51 : Dc prog_28_method_3_code 51 (.iload_n 1) 1 52 := ⟨by decide +kernel, rfl⟩
theorem e4_52 : Dc prog_28_method_3_code 52 (.iastore) 1 53 := ⟨by decide +kernel, rfl⟩
theorem e4_53 : Dc prog_28_method_3_code 53 (.aload_n 0) 1 54 := ⟨by decide +kernel, rfl⟩
theorem e4_54 : Dc prog_28_method_3_code 54 (.dup) 1 55 := ⟨by decide +kernel, rfl⟩
theorem e4_55 : Dc prog_28_method_3_code 55 (.getfield 17) 3 58 := ⟨by decide +kernel, rfl⟩
theorem e4_58 : Dc prog_28_method_3_code 58 (.iconst 1) 1 59 := ⟨by decide +kernel, rfl⟩
theorem e4_59 : Dc prog_28_method_3_code 59 (.iadd) 1 60 := ⟨by decide +kernel, rfl⟩
theorem e4_60 : Dc prog_28_method_3_code 60 (.putfield 17) 3 63 := ⟨by decide +kernel, rfl⟩
theorem e4_63 : Dc prog_28_method_3_code 63 (.return_) 1 64 := ⟨by decide +kernel, rfl⟩
theorem e5_0 : Dc prog_28_method_4_code 0 (.aload_n 0) 1 1 := ⟨by decide +kernel, rfl⟩
theorem e5_1 : Dc prog_28_method_4_code 1 (.getfield 7) 3 4 := ⟨by decide +kernel, rfl⟩
theorem e5_4 : Dc prog_28_method_4_code 4 (.aload_n 0) 1 5 := ⟨by decide +kernel, rfl⟩
theorem e5_5 : Dc prog_28_method_4_code 5 (.getfield 21) 3 8 := ⟨by decide +kernel, rfl⟩
theorem e5_8 : Dc prog_28_method_4_code 8 (.iaload) 1 9 := ⟨by decide +kernel, rfl⟩
theorem e5_9 : Dc prog_28_method_4_code 9 (.istore_n 1) 1 10 := ⟨by decide +kernel, rfl⟩
theorem e5_10 : Dc prog_28_method_4_code 10 (.aload_n 0) 1 11 := ⟨by decide +kernel, rfl⟩
theorem e5_11 : Dc prog_28_method_4_code 11 (.aload_n 0) 1 12 := ⟨by decide +kernel, rfl⟩
theorem e5_12 : Dc prog_28_method_4_code 12 (.getfield 21) 3 15 := ⟨by decide +kernel, rfl⟩
theorem e5_15 : Dc prog_28_method_4_code 15 (.iconst 1) 1 16 := ⟨by decide +kernel, rfl⟩
theorem e5_16 : Dc prog_28_method_4_code 16 (.iadd) 1 17 := ⟨by decide +kernel, rfl⟩
theorem e5_17 : Dc prog_28_method_4_code 17 (.aload_n 0) 1 18 := ⟨by decide +kernel, rfl⟩
theorem e5_18 : Dc prog_28_method_4_code 18 (.getfield 7) 3 21 := ⟨by decide +kernel, rfl⟩
theorem e5_21 : Dc prog_28_method_4_code 21 (.arraylength) 1 22 := ⟨by decide +kernel, rfl⟩
theorem e5_22 : Dc prog_28_method_4_code 22 (.if_icmp .ge 12) 3 25 := ⟨by decide +kernel, rfl⟩
theorem e5_25 : Dc prog_28_method_4_code 25 (.aload_n 0) 1 26 := ⟨by decide +kernel, rfl⟩
theorem e5_26 : Dc prog_28_method_4_code 26 (.getfield 21) 3 29 := ⟨by decide +kernel, rfl⟩
theorem e5_29 : Dc prog_28_method_4_code 29 (.iconst 1) 1 30 := ⟨by decide +kernel, rfl⟩
theorem e5_30 : Dc prog_28_method_4_code 30 (.iadd) 1 31 := ⟨by decide +kernel, rfl⟩
theorem e5_31 : Dc prog_28_method_4_code 31 (.goto 4) 3 34 := ⟨by decide +kernel, rfl⟩
theorem e5_34 : Dc prog_28_method_4_code 34 (.iconst 0) 1 35 := ⟨by decide +kernel, rfl⟩
theorem e5_35 : Dc prog_28_method_4_code 35 (.putfield 21) 3 38 := ⟨by decide +kernel, rfl⟩
theorem e5_38 : Dc prog_28_method_4_code 38 (.aload_n 0) 1 39 := ⟨by decide +kernel, rfl⟩
theorem e5_39 : Dc prog_28_method_4_code 39 (.dup) 1 40 := ⟨by decide +kernel, rfl⟩
theorem e5_40 : Dc prog_28_method_4_code 40 (.getfield 17) 3 43 := ⟨by decide +kernel, rfl⟩
theorem e5_43 : Dc prog_28_method_4_code 43 (.iconst 1) 1 44 := ⟨by decide +kernel, rfl⟩
theorem e5_44 : Dc prog_28_method_4_code 44 (.isub) 1 45 := ⟨by decide +kernel, rfl⟩
theorem e5_45 : Dc prog_28_method_4_code 45 (.putfield 17) 3 48 := ⟨by decide +kernel, rfl⟩
theorem e5_48 : Dc prog_28_method_4_code 48 (.aload_n 0) 1 49 := ⟨by decide +kernel, rfl⟩
theorem e5_49 : Dc prog_28_method_4_code 49 (.getfield 13) 3 52 := ⟨by decide +kernel, rfl⟩
theorem e5_52 : Dc prog_28_method_4_code 52 (.iload_n 1) 1 53 := ⟨by decide +kernel, rfl⟩
theorem e5_53 : Dc prog_28_method_4_code 53 (.iconst 0) 1 54 := ⟨by decide +kernel, rfl⟩
theorem e5_54 : Dc prog_28_method_4_code 54 (.bastore) 1 55 := ⟨by decide +kernel, rfl⟩
theorem e5_55 : Dc prog_28_method_4_code 55 (.iload_n 1) 1 56 := ⟨by decide +kernel, rfl⟩
theorem e5_56 : Dc prog_28_method_4_code 56 (.ireturn) 1 57 := ⟨by decide +kernel, rfl⟩
theorem e6_0 : Dc prog_28_method_2_code 0 (.aload_n 0) 1 1 := ⟨by decide +kernel, rfl⟩
theorem e6_1 : Dc prog_28_method_2_code 1 (.getfield 17) 3 4 := ⟨by decide +kernel, rfl⟩
theorem e6_4 : Dc prog_28_method_2_code 4 (.ifCond .ne 7) 3 7 := ⟨by decide +kernel, rfl⟩
theorem e6_7 : Dc prog_28_method_2_code 7 (.iconst 1) 1 8 := ⟨by decide +kernel, rfl⟩
theorem e6_8 : Dc prog_28_method_2_code 8 (.goto 4) 3 11 := ⟨by decide +kernel, rfl⟩
theorem e6_11 : Dc prog_28_method_2_code 11 (.iconst 0) 1 12 := ⟨by decide +kernel, rfl⟩
theorem e6_12 : Dc prog_28_method_2_code 12 (.ireturn) 1 13 := ⟨by decide +kernel, rfl⟩
theorem pf_0 : parseFieldDescriptor "[I" = some (.array .int) := by decide +kernel
theorem pf_1 : parseFieldDescriptor "[Z" = some (.array .boolean) := by decide +kernel
theorem pn_2 : plainName "com/example/covenant/covenant/engine/IndexQueue" = true := by first | (simp [plainName, overriddenIn]; done) | decide +kernel
theorem pf_3 : parseFieldDescriptor "I" = some .int := by decide +kernel
theorem pn_4 : plainName "com/example/covenant/covenant/engine/IndexQueueAddPinLaw" = true := by first | (simp [plainName, overriddenIn]; done) | decide +kernel
theorem hy_5 : "com/example/covenant/covenant/engine/IndexQueueAddPinLaw" ≠ "java/lang/invoke/MethodHandle" ∧ "com/example/covenant/covenant/engine/IndexQueueAddPinLaw" ≠ "java/lang/invoke/VarHandle" := by decide
theorem pd_6 : parseMethodDescriptor "(II)I" = some ⟨[.int, .int], some .int⟩ := by decide +kernel
theorem lay_7 {Z : State} {a0 : Array Value} {b : Nat} (hw : ∀ d ∈ tables_1, d.before a0 Z = true) : Laids Z a0 b "com/example/covenant/covenant/engine/IndexQueue" [("ring", "[I", .null), ("queued", "[Z", .null), ("head", "I", .int 0), ("size", "I", .int 0)] := ⟨⟨Or.inr (hw _ (wd 16 rfl)), _, pf_0, rfl⟩, ⟨⟨Or.inr (hw _ (wd 19 rfl)), _, pf_1, rfl⟩, ⟨⟨Or.inl (hw _ (wd 26 rfl)), _, pf_3, rfl⟩, ⟨⟨Or.inl (hw _ (wd 28 rfl)), _, pf_3, rfl⟩, trivial⟩⟩⟩⟩
theorem nd_8 : (["ring", "queued", "head", "size"] : List String).Nodup := by decide
theorem hy_9 : "com/example/covenant/covenant/engine/IndexQueue" ≠ "java/lang/invoke/MethodHandle" ∧ "com/example/covenant/covenant/engine/IndexQueue" ≠ "java/lang/invoke/VarHandle" := by decide
theorem pd_10 : parseMethodDescriptor "(I)V" = some ⟨[.int], none⟩ := by decide +kernel
theorem pd_11 : parseMethodDescriptor "()I" = some ⟨[], some .int⟩ := by decide +kernel
theorem pd_12 : parseMethodDescriptor "()Z" = some ⟨[], some .boolean⟩ := by decide +kernel
abbrev Qo (r d : Value) (h s : Int32) : GCell := ob "com/example/covenant/covenant/engine/IndexQueue" [("ring", "[I", r), ("queued", "[Z", d), ("head", "I", .int h), ("size", "I", .int s)]
def own_held (bd : Nat) (w : List Int32) : List Value := (List.range bd).map fun j => .int (if Int32.ofNat j ∈ w then 1 else 0)
def own_add (w : List Int32) (x : Int32) : List Int32 := if x ∈ w then w else w ++ [x]
def Iq (H : List GCell) (q r d n : Nat) (w : List Int32) (K : List (Nat × GCell)) : Prop := ∃ (hd sz : Int32) (ring : List Value) (h : Nat), H[q]? = some (Qo (.ref r) (.ref d) hd sz) ∧ H[r]? = some (ar .int ring) ∧ H[d]? = some (ar .boolean (own_held n w)) ∧ ring.length = n ∧ hd.toInt = (h : Int) ∧ h < n ∧ sz.toInt = (w.length : Int) ∧ (∀ (i : Nat) (y : Int32), w[i]? = some y → ring[(h + i) % n]? = some (.int y)) ∧ (∀ y ∈ w, 0 ≤ y.toInt ∧ y.toInt < (n : Int)) ∧ w.Nodup ∧ w.length ≤ n ∧ ∀ p ∈ K, H[p.1]? = some p.2 ∧ p.1 ≠ q ∧ p.1 ≠ r ∧ p.1 ≠ d
theorem own_of {x : Int32} {k : Nat} (h : x.toInt = (k : Int)) : x = Int32.ofNat k := by
  apply Int32.toInt_inj.mp
  have := Int32.toInt_lt x
  rw [h, Int32.toInt_ofNat_of_lt (by omega)]
theorem own_ofne {j k : Nat} (hj : j < 2147483648) (hk : k < 2147483648) (h : Int32.ofNat j = Int32.ofNat k) : j = k := by
  have := congrArg Int32.toInt h
  rw [Int32.toInt_ofNat_of_lt (by omega), Int32.toInt_ofNat_of_lt (by omega)] at this
  omega
theorem own_held_at {bd : Nat} {w : List Int32} {x : Int32} {k : Nat} (hx : x.toInt = (k : Int)) (hk : k < bd) : (own_held bd w)[k]? = some (.int (if x ∈ w then 1 else 0)) := by
  simp [own_held, hk, own_of hx]
theorem own_held_len (bd : Nat) (w : List Int32) : (own_held bd w).length = bd := by simp [own_held]
theorem own_held_set {bd : Nat} {w : List Int32} {x : Int32} {k : Nat} (hx : x.toInt = (k : Int)) (hk : k < bd) (hb : bd ≤ 1000000000) : (own_held bd w).set k (.int (1 &&& 1)) = own_held bd (w ++ [x]) := by
  apply List.ext_getElem?
  intro j
  rw [List.getElem?_set, own_held_len]
  by_cases q : k = j
  · subst q
    rw [if_pos rfl, if_pos hk, own_held_at hx hk]
    simp
  · rw [if_neg q]
    by_cases r : j < bd
    · have ne : Int32.ofNat j ≠ x := fun e => q (own_ofne (by omega) (by omega) ((own_of hx).symm.trans e.symm))
      simp [own_held, r, ne]
    · simp [own_held, r]
theorem own_held_nil (bd : Nat) : own_held bd [] = List.replicate bd (.int 0) := by
  apply List.ext_getElem?
  intro j
  by_cases r : j < bd <;> simp [own_held, r]
theorem own_held_clr {bd : Nat} {t : List Int32} {x : Int32} {k : Nat} (hx : x.toInt = (k : Int)) (hk : k < bd) (hb : bd ≤ 1000000000) (hn : x ∉ t) : (own_held bd (x :: t)).set k (.int (0 &&& 1)) = own_held bd t := by
  apply List.ext_getElem?
  intro j
  rw [List.getElem?_set, own_held_len]
  by_cases q : k = j
  · subst q
    rw [if_pos rfl, if_pos hk, own_held_at hx hk]
    simp [hn]
  · rw [if_neg q]
    by_cases r : j < bd
    · have ne : Int32.ofNat j ≠ x := fun e => q (own_ofne (by omega) (by omega) ((own_of hx).symm.trans e.symm))
      simp [own_held, r, ne]
    · simp [own_held, r]
theorem own_in {p : Prop} [Decidable p] (h : ¬ (if p then 1 else 0 : Int32) = 0) : p := by
  by_cases z : p
  · exact z
  · rw [if_neg z] at h; exact absurd rfl h
theorem own_out {p : Prop} [Decidable p] (h : (if p then 1 else 0 : Int32) = 0) : ¬ p := fun z => by rw [if_pos z] at h; exact absurd h (by decide)
theorem own_aa {H : List GCell} {d a : Nat} {vs us : List Value} (h1 : H[d]? = some (ar .boolean vs)) (h2 : H[a]? = some (ar .int us)) : d ≠ a := fun e => by subst e; rw [h1] at h2; cases h2
theorem own_l32 {n : Nat} (h : n ≤ 1000000000) : (n.toInt32).toInt = (n : Int) := len_toInt (by omega)
theorem own_sum {a c : Int32} {m n : Nat} (h1 : a.toInt = (m : Int)) (h2 : c.toInt = (n : Int)) (hb : m + n ≤ 2000000000) : (a + c).toInt = ((m + n : Nat) : Int) := by
  have e := c_iadd a c
  have l1 := Int32.le_toInt (a + c)
  have l2 := Int32.toInt_lt (a + c)
  omega
theorem own_dif {a c : Int32} {m n : Nat} (h1 : a.toInt = (m : Int)) (h2 : c.toInt = (n : Int)) (hb : m ≤ 2000000000) (hn : n ≤ m) : (a - c).toInt = ((m - n : Nat) : Int) := by
  have e := c_isub a c
  have l1 := Int32.le_toInt (a - c)
  have l2 := Int32.toInt_lt (a - c)
  omega
theorem own_one : (1 : Int32).toInt = ((1 : Nat) : Int) := rfl
theorem own_mod1 {m n : Nat} (h : m < n) : m = m % n := (Nat.mod_eq_of_lt h).symm
theorem own_mod2 {m n : Nat} (h : n ≤ m) (h2 : m < n + n) : m - n = m % n := by rw [Nat.mod_eq_sub_mod h, Nat.mod_eq_of_lt (by omega)]
theorem Iq.ob {H : List GCell} {q r d n : Nat} {w : List Int32} {K : List (Nat × GCell)} (h : Iq H q r d n w K) : ∃ hd s, H[q]? = some (Qo (.ref r) (.ref d) hd s) := by obtain ⟨hd, s, _, _, h, _⟩ := h; exact ⟨hd, s, h⟩
theorem Iq.kept {H : List GCell} {q r d n : Nat} {w : List Int32} {j : Nat} {m : GCell} (h : Iq H q r d n w [(j, m)]) : H[j]? = some m := by
  obtain ⟨_, _, _, _, _, _, _, _, _, _, _, _, _, _, _, h⟩ := h
  exact (h (j, m) (by simp)).1
theorem own_new {H : List GCell} {q r d n : Nat} {w : List Int32} {K : List (Nat × GCell)} {x hd sz : Int32} {ring : List Value} {k h : Nat} (hx : x.toInt = (k : Int)) (hk : k < n) (hb : n ≤ 1000000000)
    (hq : H[q]? = some (Qo (.ref r) (.ref d) hd sz)) (hr : H[r]? = some (ar .int ring)) (hdd : H[d]? = some (ar .boolean (own_held n w))) (hl : ring.length = n) (hh : hd.toInt = (h : Int)) (hhn : h < n) (hs : sz.toInt = (w.length : Int)) (hy : ∀ (i : Nat) (y : Int32), w[i]? = some y → ring[(h + i) % n]? = some (.int y)) (hrg : ∀ y ∈ w, 0 ≤ y.toInt ∧ y.toInt < (n : Int)) (hnd : w.Nodup) (hwn : w.length < n) (hK : ∀ p ∈ K, H[p.1]? = some p.2 ∧ p.1 ≠ q ∧ p.1 ≠ r ∧ p.1 ≠ d) (hin : x ∉ w) :
    Iq (((H.set d (ar .boolean ((own_held n w).set k (.int (1 &&& 1))))).set r (ar .int (ring.set ((h + w.length) % n) (.int x)))).set q (Qo (.ref r) (.ref d) hd (sz + 1))) q r d n (w ++ [x]) K := by
  have n1 := ne_oa hq hdd
  have n2 := ne_oa hq hr
  have n3 := own_aa hdd hr
  refine ⟨hd, sz + 1, ring.set ((h + w.length) % n) (.int x), h, get_eq (get_ne (get_ne hq (Ne.symm n1)) (Ne.symm n2)), get_ne (get_eq (get_ne hr n3)) n2, ?_, by simp [hl], hh, hhn, ?_, fun i y hi => ?_, fun y h => ?_, ?_, by simp; omega, fun p hp => ?_⟩
  · rw [← own_held_set hx hk hb]
    exact get_ne (get_ne (get_eq hdd) (Ne.symm n3)) n1
  · rw [own_sum hs own_one (by omega)]; simp
  · rw [List.getElem?_append] at hi
    split at hi
    · rename_i h1
      rw [List.getElem?_set_ne, hy i y hi]
      intro e
      have a1 : h + w.length < n ∨ n ≤ h + w.length := by omega
      have a2 : h + i < n ∨ n ≤ h + i := by omega
      rcases a1 with a1 | a1 <;> rcases a2 with a2 | a2
      · rw [← own_mod1 a1, ← own_mod1 a2] at e; omega
      · rw [← own_mod1 a1, ← own_mod2 a2 (by omega)] at e; omega
      · rw [← own_mod2 a1 (by omega), ← own_mod1 a2] at e; omega
      · rw [← own_mod2 a1 (by omega), ← own_mod2 a2 (by omega)] at e; omega
    · rename_i h1
      by_cases e : i = w.length
      · subst e; simp at hi; subst hi
        have : (h + w.length) % n < n := Nat.mod_lt _ (by omega)
        simp [hl, this]
      · rw [List.getElem?_eq_none (by simp; omega)] at hi; cases hi
  · rcases List.mem_append.mp h with h | h
    · exact hrg y h
    · rw [List.mem_singleton.mp h, hx]; omega
  · rw [List.nodup_append]
    refine ⟨hnd, by simp, fun a ha c hc e => ?_⟩
    rw [List.mem_singleton.mp hc] at e
    exact hin (e ▸ ha)
  · obtain ⟨k1, k2, k3, k4⟩ := hK p hp
    exact ⟨get_ne (get_ne (get_ne k1 (Ne.symm k4)) (Ne.symm k3)) (Ne.symm k2), k2, k3, k4⟩
theorem own_popped {H : List GCell} {q r d n : Nat} {t : List Int32} {K : List (Nat × GCell)} {y hd hd' sz : Int32} {ring : List Value} {k h h' : Nat} (hx : y.toInt = (k : Int)) (hk : k < n) (hb : n ≤ 1000000000)
    (hq : H[q]? = some (Qo (.ref r) (.ref d) hd sz)) (hr : H[r]? = some (ar .int ring)) (hdd : H[d]? = some (ar .boolean (own_held n (y :: t)))) (hl : ring.length = n) (hh : hd'.toInt = (h' : Int)) (he : h' = (h + 1) % n) (hs : sz.toInt = ((y :: t).length : Int)) (hy : ∀ (i : Nat) (y_1 : Int32), (y :: t)[i]? = some y_1 → ring[(h + i) % n]? = some (.int y_1)) (hrg : ∀ z ∈ y :: t, 0 ≤ z.toInt ∧ z.toInt < (n : Int)) (hnd : (y :: t).Nodup) (hwn : (y :: t).length ≤ n) (hK : ∀ p ∈ K, H[p.1]? = some p.2 ∧ p.1 ≠ q ∧ p.1 ≠ r ∧ p.1 ≠ d) :
    Iq (((H.set q (Qo (.ref r) (.ref d) hd' sz)).set q (Qo (.ref r) (.ref d) hd' (sz - 1))).set d (ar .boolean ((own_held n (y :: t)).set k (.int (0 &&& 1))))) q r d n t K := by
  have n1 := ne_oa hq hdd
  have n2 := ne_oa hq hr
  have n3 := own_aa hdd hr
  have hyt := (List.nodup_cons.mp hnd)
  simp only [List.length_cons] at hs hwn
  refine ⟨hd', sz - 1, ring, h', get_ne (get_eq (get_eq hq)) (Ne.symm n1), get_ne (get_ne (get_ne hr n2) n2) n3, ?_, hl, hh, by rw [he]; exact Nat.mod_lt _ (by omega), ?_, fun i z hi => ?_, fun z h => hrg z (List.mem_cons_of_mem _ h), hyt.2, by omega, fun p hp => ?_⟩
  · rw [← own_held_clr hx hk hb hyt.1]
    exact get_eq (get_ne (get_ne hdd n1) n1)
  · rw [own_dif hs own_one (by omega) (by omega)]; simp
  · have := hy (i + 1) z (by simpa using hi)
    rw [← this, he, Nat.mod_add_mod]
    congr 2
    omega
  · obtain ⟨k1, k2, k3, k4⟩ := hK p hp
    exact ⟨get_ne (get_ne (get_ne k1 (Ne.symm k2)) (Ne.symm k2)) (Ne.symm k4), k2, k3, k4⟩
theorem own_fresh {H : List GCell} {q n : Nat} {o : GCell} {K : List (Nat × GCell)} (hq : H[q]? = some o) (hn : 0 < n) (hK : ∀ p ∈ K, H[p.1]? = some p.2 ∧ p.1 ≠ q) : Iq (((((H ++ [ar .int (List.replicate n (.int 0))]).set q (Qo (.ref H.length) .null 0 0)) ++ [ar .boolean (List.replicate n (.int 0))])).set q (Qo (.ref H.length) (.ref ((H ++ [ar .int (List.replicate n (.int 0))]).set q (Qo (.ref H.length) .null 0 0)).length) 0 0)) q H.length (H.length + 1) n [] K := by
  have hlt := (List.getElem?_eq_some_iff.mp hq).1
  have e : ((H ++ [ar .int (List.replicate n (.int 0))]).set q (Qo (.ref H.length) .null 0 0)).length = H.length + 1 := by simp
  rw [e]
  refine ⟨0, 0, List.replicate n (.int 0), 0, get_eq (get_app (get_eq (get_app hq))), ?_, ?_, by simp, rfl, hn, rfl, fun i y h => by simp at h, fun y h => by simp at h, List.nodup_nil, by simp, fun p hp => ?_⟩
  · exact get_ne (get_app (get_ne get_last (by omega))) (by omega)
  · rw [own_held_nil]
    refine get_ne ?_ (by omega)
    have := get_last (H := (H ++ [ar .int (List.replicate n (.int 0))]).set q (Qo (.ref H.length) .null 0 0)) (m := ar .boolean (List.replicate n (.int 0)))
    rw [e] at this
    exact this
  · obtain ⟨k1, k2⟩ := hK p hp
    have := (List.getElem?_eq_some_iff.mp k1).1
    exact ⟨get_ne (get_app (get_ne (get_app k1) (Ne.symm k2))) (Ne.symm k2), k2, by omega, by omega⟩
theorem own_bit1 (p : Prop) [Decidable p] : ((if p then 1 else 0 : Int32) &&& 1) = if p then 1 else 0 := by split <;> rfl
theorem own_two {x y : Int32} {kx ky n : Nat} (h1 : x.toInt = (kx : Int)) (h2 : y.toInt = (ky : Int)) (l1 : kx < n) (l2 : ky < n) (h : ¬ y = x) : 1 < n := by
  have : kx ≠ ky := fun e => h (Int32.toInt_inj.mp (by rw [h1, h2, e]))
  omega
theorem own_rem {x n : Int32} {bd : Nat} (hn : n.toInt = (bd : Int)) (hm : 0 < bd) (hx : 0 ≤ x.toInt) : ∃ k : Nat, (x % n).toInt = (k : Int) ∧ k < bd := by
  have h := (c_iremV x n).1 hx (by omega)
  exact ⟨(x % n).toInt.toNat, by omega, by omega⟩
theorem own_three {x y z : Int32} {kx ky kz n : Nat} (h1 : x.toInt = (kx : Int)) (h2 : y.toInt = (ky : Int)) (h3 : z.toInt = (kz : Int)) (l1 : kx < n) (l2 : ky < n) (l3 : kz < n) (a : ¬ y = x) (c : ¬ z = x) (d : ¬ z = y) : 2 < n := by
  have e1 : kx ≠ ky := fun e => a (Int32.toInt_inj.mp (by rw [h1, h2, e]))
  have e2 : kx ≠ kz := fun e => c (Int32.toInt_inj.mp (by rw [h1, h3, e]))
  have e3 : ky ≠ kz := fun e => d (Int32.toInt_inj.mp (by rw [h2, h3, e]))
  omega

set_option maxRecDepth 65536 in
set_option maxHeartbeats 4000000 in
theorem c_init {l : Launch} {Z : State} {a0 : Array Value} {b : Nat} (hw : ∀ d ∈ tables_1, d.before a0 Z = true) {H : List GCell} {q n : Nat} {K : List (Nat × GCell)} {nn : Int32} (hq : H[q]? = some (Qo .null .null 0 0)) (hn : nn.toInt = (n : Int)) (h0 : 0 < n) (hk : n ≤ 4) (hK : ∀ p ∈ K, H[p.1]? = some p.2 ∧ p.1 ≠ q) :
    Met l Z a0 b (⟨"com/example/covenant/covenant/engine/IndexQueue", "<init>", "(I)V"⟩ : MethodName) prog_28_method_1_code 2 none ({ frames := 1, cells := 2, slots := 8, locals := 12 } : Room) [.ref q, .int nn] H (fun v H' => v = none ∧ Iq H' q H.length (H.length + 1) n [] K) := by
  refine Met.of_go hw (plainFor_of_name pn_2) (L0 := [.val (.ref q), .val (.int nn)]) rfl ?_
  intro p e s m args below meth c C
  refine go_aloadN e2_0 rfl rfl ?_
  refine go_initO (C := C) e2_1 (wd 12 rfl) (wd 13 rfl) (wd (W := tables_1) 14 rfl) rfl (by decide) 0 (by decide) (by decide) ?_
  refine go_aloadN e2_4 rfl rfl ?_
  refine go_iloadN e2_5 rfl ?_
  refine go_newarray e2_6 (wd 5 rfl) (k := n) hn (vs := List.replicate n (.int 0)) rfl (cap := 4) hk (by decide) (by decide) (by decide) ?_
  refine go_putfield e2_8 (wd 15 rfl) (Or.inr ⟨(wd 16 rfl), rfl, rfl⟩) (wd 7 rfl) pf_0 (get_app hq) (j := 0) rfl rfl rfl ?_
  refine go_aloadN e2_11 rfl rfl ?_
  refine go_iloadN e2_12 rfl ?_
  refine go_newarray e2_13 (wd 17 rfl) (k := n) hn (vs := List.replicate n (.int 0)) rfl (cap := 4) hk (by decide) (by decide) (by decide) ?_
  refine go_putfield e2_15 (wd 18 rfl) (Or.inr ⟨(wd 19 rfl), rfl, rfl⟩) (wd 7 rfl) pf_1 (get_app (get_eq (get_app hq))) (j := 1) rfl rfl rfl ?_
  refine go_return e2_18 rfl (by decide) (by decide) ?_
  exact ⟨rfl, own_fresh hq h0 hK⟩
set_option maxRecDepth 65536 in
set_option maxHeartbeats 4000000 in
theorem c_add {l : Launch} {Z : State} {a0 : Array Value} {b : Nat} (hw : ∀ d ∈ tables_1, d.before a0 Z = true) {H : List GCell} {q r d n : Nat} {w : List Int32} {K : List (Nat × GCell)} {x : Int32} {k : Nat} (hM : Iq H q r d n w K) (hx : x.toInt = (k : Int)) (hk : k < n) (hb : n ≤ 1000000000) (hl0 : x ∉ w → w.length < n) :
    Met l Z a0 b (⟨"com/example/covenant/covenant/engine/IndexQueue", "add", "(I)V"⟩ : MethodName) prog_28_method_3_code 3 none ({ frames := 0, cells := 0, slots := 0, locals := 0 } : Room) [.ref q, .int x] H (fun v H' => v = none ∧ Iq H' q r d n (own_add w x) K) := by
  obtain ⟨hd, sz, ring, h, hq, hr, hdd, hl, hh, hhn, hs, hy, hrg, hnd, hwn, hK⟩ := hM
  refine Met.of_go hw (plainFor_of_name pn_2) (L0 := [.val (.ref q), .val (.int x), .unset]) rfl ?_
  intro p e s m args below meth c C
  refine go_aloadN e4_0 rfl rfl ?_
  refine go_getfield e4_1 (wd 18 rfl) hq (j := 1) rfl ?_
  refine go_iloadN e4_4 rfl ?_
  refine go_zaload e4_5 hdd (k := k) hx (own_held_at hx hk) ?_
  refine go_ifeq e4_6 (tg := 10) (by decide) ?_ ?_
  · intro c6
    have hin : x ∉ w := own_out c6
    have hlt := hl0 hin
    have hn32 : (ring.length.toInt32).toInt = (n : Int) := by rw [hl]; exact own_l32 hb
    refine go_aloadN e4_10 rfl rfl ?_
    refine go_getfield e4_11 (wd 18 rfl) hq (j := 1) rfl ?_
    refine go_iloadN e4_14 rfl ?_
    refine go_iconst e4_15 (x := 1) rfl ?_
    refine go_zastore e4_16 hdd (k := k) hx (by rw [own_held_len]; exact hk) ?_
    refine go_aloadN e4_17 rfl rfl ?_
    refine go_getfield e4_18 (wd 25 rfl) (get_ne hq (Ne.symm (ne_oa hq hdd))) (j := 2) rfl ?_
    refine go_aloadN e4_21 rfl rfl ?_
    refine go_getfield e4_22 (wd 27 rfl) (get_ne hq (Ne.symm (ne_oa hq hdd))) (j := 3) rfl ?_
    refine go_iadd e4_25 ?_
    refine go_istoreX_2 e4_26 rfl ?_
    intro at0 hat
    have hat2 : at0.toInt = ((h + w.length : Nat) : Int) := by rw [hat]; exact own_sum hh hs (by omega)
    refine go_aloadN e4_27 rfl rfl ?_
    refine go_getfield e4_28 (wd 15 rfl) (get_ne hq (Ne.symm (ne_oa hq hdd))) (j := 0) rfl ?_
    refine go_iloadN e4_31 rfl ?_
    refine go_aloadN e4_32 rfl rfl ?_
    refine go_getfield e4_33 (wd 15 rfl) (get_ne hq (Ne.symm (ne_oa hq hdd))) (j := 0) rfl ?_
    refine go_len e4_36 (get_ne hr (own_aa hdd hr)) (n := (ring.length.toInt32)) rfl ?_
    refine go_icge e4_37 (tg := 44) (by decide) ?_ ?_
    · intro c37
      refine go_iloadN e4_44 rfl ?_
      refine go_aloadN e4_45 rfl rfl ?_
      refine go_getfield e4_46 (wd 15 rfl) (get_ne hq (Ne.symm (ne_oa hq hdd))) (j := 0) rfl ?_
      refine go_len e4_49 (get_ne hr (own_aa hdd hr)) (n := (ring.length.toInt32)) rfl ?_
      refine go_isub e4_50 ?_
      refine go_iloadN e4_51 rfl ?_
      refine go_iastore e4_52 (get_ne hr (own_aa hdd hr)) (k := (h + w.length) % n) (by rw [own_dif hat2 hn32 (by omega) (by omega)]; exact congrArg Int.ofNat (own_mod2 (by omega) (by omega))) (by rw [hl]; exact Nat.mod_lt _ (by omega)) ?_
      refine go_aloadN e4_53 rfl rfl ?_
      refine go_dup e4_54 rfl ?_
      refine go_getfield e4_55 (wd 27 rfl) (get_ne (get_ne hq (Ne.symm (ne_oa hq hdd))) (Ne.symm (ne_oa hq hr))) (j := 3) rfl ?_
      refine go_iconst e4_58 (x := 1) rfl ?_
      refine go_iadd e4_59 ?_
      refine go_putfield e4_60 (wd 27 rfl) (Or.inl (wd 28 rfl)) (wd 7 rfl) pf_3 (get_ne (get_ne hq (Ne.symm (ne_oa hq hdd))) (Ne.symm (ne_oa hq hr))) (j := 3) rfl rfl rfl ?_
      refine go_return e4_63 rfl (by decide) (by decide) ?_
      exact ⟨rfl, by rw [own_add, if_neg hin]; exact own_new hx hk hb hq hr hdd hl hh hhn hs hy hrg hnd hlt hK hin⟩
    · intro c37
      refine go_iloadN e4_40 rfl ?_
      refine go_goto e4_41 (tg := 51) (by decide) ?_
      refine go_iloadN e4_51 rfl ?_
      refine go_iastore e4_52 (get_ne hr (own_aa hdd hr)) (k := (h + w.length) % n) (by rw [hat2]; exact congrArg Int.ofNat (own_mod1 (by omega))) (by rw [hl]; exact Nat.mod_lt _ (by omega)) ?_
      refine go_aloadN e4_53 rfl rfl ?_
      refine go_dup e4_54 rfl ?_
      refine go_getfield e4_55 (wd 27 rfl) (get_ne (get_ne hq (Ne.symm (ne_oa hq hdd))) (Ne.symm (ne_oa hq hr))) (j := 3) rfl ?_
      refine go_iconst e4_58 (x := 1) rfl ?_
      refine go_iadd e4_59 ?_
      refine go_putfield e4_60 (wd 27 rfl) (Or.inl (wd 28 rfl)) (wd 7 rfl) pf_3 (get_ne (get_ne hq (Ne.symm (ne_oa hq hdd))) (Ne.symm (ne_oa hq hr))) (j := 3) rfl rfl rfl ?_
      refine go_return e4_63 rfl (by decide) (by decide) ?_
      exact ⟨rfl, by rw [own_add, if_neg hin]; exact own_new hx hk hb hq hr hdd hl hh hhn hs hy hrg hnd hlt hK hin⟩
  · intro c6
    have hin : x ∈ w := own_in c6
    refine go_return e4_9 rfl (by decide) (by decide) ?_
    exact ⟨rfl, by rw [own_add, if_pos hin]; exact ⟨hd, sz, ring, h, hq, hr, hdd, hl, hh, hhn, hs, hy, hrg, hnd, hwn, hK⟩⟩
set_option maxRecDepth 65536 in
set_option maxHeartbeats 4000000 in
theorem c_poll {l : Launch} {Z : State} {a0 : Array Value} {b : Nat} (hw : ∀ d ∈ tables_1, d.before a0 Z = true) {H : List GCell} {q r d n : Nat} {y : Int32} {t : List Int32} {K : List (Nat × GCell)} (hM : Iq H q r d n (y :: t) K) (hb : n ≤ 1000000000) :
    Met l Z a0 b (⟨"com/example/covenant/covenant/engine/IndexQueue", "poll", "()I"⟩ : MethodName) prog_28_method_4_code 2 (some .int) ({ frames := 0, cells := 0, slots := 0, locals := 0 } : Room) [.ref q] H (fun v H' => ∃ u, v = some u ∧ (u = .int y ∧ Iq H' q r d n t K)) := by
  obtain ⟨hd, sz, ring, h, hq, hr, hdd, hl, hh, hhn, hs, hy, hrg, hnd, hwn, hK⟩ := hM
  have hy0 : ring[h]? = some (.int y) := by have := hy 0 y rfl; rwa [Nat.add_zero, Nat.mod_eq_of_lt hhn] at this
  obtain ⟨k, hx, hk⟩ : ∃ k : Nat, y.toInt = (k : Int) ∧ k < n := by
      have := hrg y (List.mem_cons_self ..)
      exact ⟨y.toInt.toNat, by omega, by omega⟩
  have hn32 : (ring.length.toInt32).toInt = (n : Int) := by rw [hl]; exact own_l32 hb
  have hd1 := own_sum hh own_one (by omega)
  refine Met.of_go hw (plainFor_of_name pn_2) (L0 := [.val (.ref q), .unset]) rfl ?_
  intro p e s m args below meth c C
  refine go_aloadN e5_0 rfl rfl ?_
  refine go_getfield e5_1 (wd 15 rfl) hq (j := 0) rfl ?_
  refine go_aloadN e5_4 rfl rfl ?_
  refine go_getfield e5_5 (wd 25 rfl) hq (j := 2) rfl ?_
  refine go_iaload e5_8 hr (k := h) hh hy0 ?_
  refine go_istore_1 e5_9 rfl ?_
  refine go_aloadN e5_10 rfl rfl ?_
  refine go_aloadN e5_11 rfl rfl ?_
  refine go_getfield e5_12 (wd 25 rfl) hq (j := 2) rfl ?_
  refine go_iconst e5_15 (x := 1) rfl ?_
  refine go_iadd e5_16 ?_
  refine go_aloadN e5_17 rfl rfl ?_
  refine go_getfield e5_18 (wd 15 rfl) hq (j := 0) rfl ?_
  refine go_len e5_21 hr (n := (ring.length.toInt32)) rfl ?_
  refine go_icge e5_22 (tg := 34) (by decide) ?_ ?_
  · intro c22
    refine go_iconst e5_34 (x := 0) rfl ?_
    refine go_putfield e5_35 (wd 25 rfl) (Or.inl (wd 26 rfl)) (wd 7 rfl) pf_3 hq (j := 2) rfl rfl rfl ?_
    refine go_aloadN e5_38 rfl rfl ?_
    refine go_dup e5_39 rfl ?_
    refine go_getfield e5_40 (wd 27 rfl) (get_eq hq) (j := 3) rfl ?_
    refine go_iconst e5_43 (x := 1) rfl ?_
    refine go_isub e5_44 ?_
    refine go_putfield e5_45 (wd 27 rfl) (Or.inl (wd 28 rfl)) (wd 7 rfl) pf_3 (get_eq hq) (j := 3) rfl rfl rfl ?_
    refine go_aloadN e5_48 rfl rfl ?_
    refine go_getfield e5_49 (wd 18 rfl) (get_eq (get_eq hq)) (j := 1) rfl ?_
    refine go_iloadN e5_52 rfl ?_
    refine go_iconst e5_53 (x := 0) rfl ?_
    refine go_zastore e5_54 (get_ne (get_ne hdd (ne_oa hq hdd)) (ne_oa hq hdd)) (k := k) hx (by rw [own_held_len]; exact hk) ?_
    refine go_iloadN e5_55 rfl ?_
    refine go_ireturn e5_56 rfl (by decide) (by decide) ?_
    exact ⟨_, rfl, rfl, own_popped hx hk hb hq hr hdd hl (h' := 0) rfl (by rw [show h + 1 = n by omega, Nat.mod_self]) hs hy hrg hnd hwn hK⟩
  · intro c22
    refine go_aloadN e5_25 rfl rfl ?_
    refine go_getfield e5_26 (wd 25 rfl) hq (j := 2) rfl ?_
    refine go_iconst e5_29 (x := 1) rfl ?_
    refine go_iadd e5_30 ?_
    refine go_goto e5_31 (tg := 35) (by decide) ?_
    refine go_putfield e5_35 (wd 25 rfl) (Or.inl (wd 26 rfl)) (wd 7 rfl) pf_3 hq (j := 2) rfl rfl rfl ?_
    refine go_aloadN e5_38 rfl rfl ?_
    refine go_dup e5_39 rfl ?_
    refine go_getfield e5_40 (wd 27 rfl) (get_eq hq) (j := 3) rfl ?_
    refine go_iconst e5_43 (x := 1) rfl ?_
    refine go_isub e5_44 ?_
    refine go_putfield e5_45 (wd 27 rfl) (Or.inl (wd 28 rfl)) (wd 7 rfl) pf_3 (get_eq hq) (j := 3) rfl rfl rfl ?_
    refine go_aloadN e5_48 rfl rfl ?_
    refine go_getfield e5_49 (wd 18 rfl) (get_eq (get_eq hq)) (j := 1) rfl ?_
    refine go_iloadN e5_52 rfl ?_
    refine go_iconst e5_53 (x := 0) rfl ?_
    refine go_zastore e5_54 (get_ne (get_ne hdd (ne_oa hq hdd)) (ne_oa hq hdd)) (k := k) hx (by rw [own_held_len]; exact hk) ?_
    refine go_iloadN e5_55 rfl ?_
    refine go_ireturn e5_56 rfl (by decide) (by decide) ?_
    exact ⟨_, rfl, rfl, own_popped hx hk hb hq hr hdd hl hd1 (own_mod1 (by omega)) hs hy hrg hnd hwn hK⟩
set_option maxRecDepth 65536 in
set_option maxHeartbeats 4000000 in
theorem c_emp {l : Launch} {Z : State} {a0 : Array Value} {b : Nat} (hw : ∀ d ∈ tables_1, d.before a0 Z = true) {H : List GCell} {q r d n : Nat} {w : List Int32} {K : List (Nat × GCell)} (hM : Iq H q r d n w K) :
    Met l Z a0 b (⟨"com/example/covenant/covenant/engine/IndexQueue", "isEmpty", "()Z"⟩ : MethodName) prog_28_method_2_code 1 (some .boolean) ({ frames := 0, cells := 0, slots := 0, locals := 0 } : Room) [.ref q] H (fun v H' => ∃ u, v = some u ∧ (u = .int (if w.length = 0 then 1 else 0) ∧ H' = H)) := by
  obtain ⟨hd, sz, ring, h, hq, hr, hdd, hl, hh, hhn, hs, hy, hrg, hnd, hwn, hK⟩ := hM
  refine Met.of_go hw (plainFor_of_name pn_2) (L0 := [.val (.ref q)]) rfl ?_
  intro p e s m args below meth c C
  refine go_aloadN e6_0 rfl rfl ?_
  refine go_getfield e6_1 (wd 27 rfl) hq (j := 3) rfl ?_
  refine go_ifne e6_4 (tg := 11) (by decide) ?_ ?_
  · intro c4
    refine go_iconst e6_11 (x := 0) rfl ?_
    refine go_zreturn e6_12 rfl rfl (by decide) (by decide) ?_
    exact ⟨_, rfl, by first | (rw [if_pos (by have := congrArg Int32.toInt c4; rw [hs] at this; have k0 : (0 : Int32).toInt = 0 := rfl; omega)]) | (rw [if_neg (fun z => c4 (Int32.toInt_inj.mp (by rw [hs, z]; rfl)))]), rfl⟩
  · intro c4
    refine go_iconst e6_7 (x := 1) rfl ?_
    refine go_goto e6_8 (tg := 12) (by decide) ?_
    refine go_zreturn e6_12 rfl rfl (by decide) (by decide) ?_
    exact ⟨_, rfl, by first | (rw [if_pos (by have := congrArg Int32.toInt c4; rw [hs] at this; have k0 : (0 : Int32).toInt = 0 := rfl; omega)]) | (rw [if_neg (fun z => c4 (Int32.toInt_inj.mp (by rw [hs, z]; rfl)))]), rfl⟩
set_option maxRecDepth 65536 in
set_option maxHeartbeats 4000000 in
theorem c_idx {l : Launch} {Z : State} {a0 : Array Value} {b : Nat} (hw : ∀ d ∈ tables_1, d.before a0 Z = true) {H : List GCell} {x n : Int32} {bd : Nat} (hn : n.toInt = (bd : Int)) (h0 : 0 < bd) :
    Met l Z a0 b (⟨"com/example/covenant/covenant/engine/IndexQueueAddPinLaw", "idx", "(II)I"⟩ : MethodName) method_2_code 2 (some .int) ({ frames := 0, cells := 0, slots := 0, locals := 0 } : Room) [.int x, .int n] H (fun v H' => ∃ u, v = some u ∧ (∃ z : Int32, u = .int z ∧ (∃ k : Nat, z.toInt = (k : Int) ∧ k < bd) ∧ H' = H)) := by
  refine Met.of_go hw (plainFor_of_name pn_4) (L0 := [.val (.int x), .val (.int n)]) rfl ?_
  intro p e s m args below meth c C
  refine go_iloadN e1_0 rfl ?_
  refine go_ldc e1_1 (wd 4 rfl) ?_
  refine go_iand e1_3 ?_
  refine go_iloadN e1_4 rfl ?_
  refine go_irem e1_5 (fun z => by rw [z] at hn; have : (0 : Int32).toInt = 0 := rfl; omega) ?_
  refine go_ireturn e1_6 rfl (by decide) (by decide) ?_
  exact ⟨_, rfl, _, rfl, own_rem hn h0 (c_and _ _ (by decide)).1, rfl⟩
set_option maxRecDepth 65536 in
set_option maxHeartbeats 4000000 in
theorem law_met {l : Launch} {Z : State} {a0 : Array Value} {b : Nat} (hw : ∀ d ∈ tables_1, d.before a0 Z = true) (i0 i1 i2 i3 i4 : Int32) :
    Met l Z a0 b x code maxLocals ret room_1 [.int i0, .int i1, .int i2, .int i3, .int i4] [] (fun v _ => v = some (.int 1)) := by
  refine Met.of_go hw (plainFor_of_name pn_4) (L0 := [.val (.int i0), .val (.int i1), .val (.int i2), .val (.int i3), .val (.int i4), .unset, .unset, .unset, .unset, .unset, .unset, .unset, .unset, .unset, .unset, .unset]) rfl ?_
  intro p e s m args below meth c C
  refine go_iconst e0_0 (x := 1) rfl ?_
  refine go_iloadN e0_1 rfl ?_
  refine go_iconst e0_2 (x := 3) rfl ?_
  refine go_iand e0_3 ?_
  refine go_iadd e0_4 ?_
  refine go_istoreX_5 e0_5 rfl ?_
  intro n hn
  obtain ⟨bd, hbd, hbd1, hbd4⟩ : ∃ bd : Nat, n.toInt = (bd : Int) ∧ 0 < bd ∧ bd ≤ 4 := by
    have e1 := c_mask i0 3 2 (by decide) (by decide)
    have e2 := c_iadd 1 (i0 &&& 3)
    have e3 := Int32.le_toInt (1 + (i0 &&& 3))
    have e4 := Int32.toInt_lt (1 + (i0 &&& 3))
    have k3 : (1 : Int32).toInt = 1 := rfl
    rw [k3] at e2
    refine ⟨(1 + (i0 &&& 3)).toInt.toNat, ?_, ?_, ?_⟩
    · rw [hn]; omega
    · omega
    · omega
  refine go_iloadN e0_7 rfl ?_
  refine go_iload e0_8 rfl ?_
  refine go_static_2 e0_10 (wd 0 rfl) (wd 1 rfl) (wd 3 rfl) (wd 2 rfl) hy_5 pd_6 rfl (c_idx hw hbd hbd1) rfl 0 rfl (by decide) (by decide) (by decide) (by decide) ?_
  rintro _ _ ⟨a, rfl, ⟨ka, hak, hal⟩, rfl⟩
  refine go_istore_6 e0_13 rfl ?_
  refine go_iloadN e0_15 rfl ?_
  refine go_iload e0_16 rfl ?_
  refine go_static_2 e0_18 (wd 0 rfl) (wd 1 rfl) (wd 3 rfl) (wd 2 rfl) hy_5 pd_6 rfl (c_idx hw hbd hbd1) rfl 0 rfl (by decide) (by decide) (by decide) (by decide) ?_
  rintro _ _ ⟨c, rfl, ⟨kc, hck, hcl⟩, rfl⟩
  refine go_istore_7 e0_21 rfl ?_
  refine go_iloadN e0_23 rfl ?_
  refine go_iload e0_24 rfl ?_
  refine go_static_2 e0_26 (wd 0 rfl) (wd 1 rfl) (wd 3 rfl) (wd 2 rfl) hy_5 pd_6 rfl (c_idx hw hbd hbd1) rfl 0 rfl (by decide) (by decide) (by decide) (by decide) ?_
  rintro _ _ ⟨d, rfl, ⟨kd, hdk, hdl⟩, rfl⟩
  refine go_istore_8 e0_29 rfl ?_
  refine go_iload e0_31 rfl ?_
  refine go_iload e0_33 rfl ?_
  refine go_static_2 e0_35 (wd 0 rfl) (wd 1 rfl) (wd 3 rfl) (wd 2 rfl) hy_5 pd_6 rfl (c_idx hw hbd hbd1) rfl 0 rfl (by decide) (by decide) (by decide) (by decide) ?_
  rintro _ _ ⟨f, rfl, ⟨kf, hfk, hfl⟩, rfl⟩
  refine go_istore_9 e0_38 rfl ?_
  have hcase : (d = c ∧ f = c) ∨ (d = c ∧ ¬ f = c ∧ ¬ f = d) ∨ (¬ d = c ∧ f = c) ∨ (¬ d = c ∧ ¬ f = c ∧ f = d) ∨ (¬ d = c ∧ ¬ f = c ∧ ¬ f = d) := by
    by_cases h1 : d = c
    · by_cases h2 : f = c
      · exact Or.inl ⟨h1, h2⟩
      · exact Or.inr (Or.inl ⟨h1, h2, fun z => h2 (z.trans h1)⟩)
    · by_cases h2 : f = c
      · exact Or.inr (Or.inr (Or.inl ⟨h1, h2⟩))
      · by_cases h3 : f = d
        · exact Or.inr (Or.inr (Or.inr (Or.inl ⟨h1, h2, h3⟩)))
        · exact Or.inr (Or.inr (Or.inr (Or.inr ⟨h1, h2, h3⟩)))
  rcases hcase with ⟨h1, h2⟩ | ⟨h1, h2, h3⟩ | ⟨h1, h2⟩ | ⟨h1, h2, h3⟩ | ⟨h1, h2, h3⟩
  · refine go_iconst e0_40 (x := 3) rfl ?_
    refine go_newarray e0_41 (wd 5 rfl) (k := 3) rfl (vs := [.int 0, .int 0, .int 0]) rfl (cap := 3) (by decide) (by decide) (by decide) (by decide) ?_
    simp only [List.replicate_succ, List.replicate_zero, List.set_cons_zero, List.set_cons_succ, List.length_nil, List.length_cons, Nat.zero_add, Nat.reduceAdd, List.nil_append, List.cons_append]
    refine go_astore_10 e0_43 rfl rfl ?_
    refine go_iconst e0_45 (x := 1) rfl ?_
    refine go_istore_11 e0_46 rfl ?_
    refine go_aload e0_48 rfl rfl ?_
    refine go_iconst e0_50 (x := 0) rfl ?_
    refine go_iload e0_51 rfl ?_
    refine go_iastore e0_53 rfl (k := 0) (by decide) (Nat.le_of_ble_eq_true rfl) ?_
    simp only [List.replicate_succ, List.replicate_zero, List.set_cons_zero, List.set_cons_succ, List.length_nil, List.length_cons, Nat.zero_add, Nat.reduceAdd, List.nil_append, List.cons_append]
    refine go_iload e0_54 rfl ?_
    refine go_iload e0_56 rfl ?_
    refine go_iceqY e0_58 (tg := 71) (by decide) h1 ?_
    refine go_iload e0_71 rfl ?_
    refine go_iload e0_73 rfl ?_
    refine go_iceqY e0_75 (tg := 95) (by decide) h2 ?_
    refine go_new e0_95 (wd 6 rfl) (wd 7 rfl) (wd 8 rfl) (lay_7 hw) nd_8 (by decide) (by decide) ?_
    simp only [List.replicate_succ, List.replicate_zero, List.set_cons_zero, List.set_cons_succ, List.length_nil, List.length_cons, Nat.zero_add, Nat.reduceAdd, List.nil_append, List.cons_append]
    refine go_dup e0_98 rfl ?_
    refine go_iload e0_99 rfl ?_
    refine go_specialV_1 rfl e0_101 (wd 9 rfl) (wd 10 rfl) (wd 11 rfl) (wd 8 rfl) hy_9 pd_10 rfl (c_init hw (K := [(0, ar .int [.int c, .int 0, .int 0])]) rfl hbd hbd1 hbd4 (fun p hp => by cases List.mem_singleton.mp hp; exact ⟨rfl, Nat.zero_ne_one⟩)) rfl 1 rfl (by decide) (by decide) (by decide) (by decide) ?_
    rintro G0 hM0
    have hM0 : Iq G0 1 2 3 bd [] [(0, ar .int [.int c, .int 0, .int 0])] := hM0
    obtain ⟨_, _, hMo0⟩ := hM0.ob
    refine go_astore_12 e0_104 rfl rfl ?_
    refine go_aload e0_106 rfl rfl ?_
    refine go_iload e0_108 rfl ?_
    refine go_virtualV_1 e0_110 (wd 20 rfl) (wd 21 rfl) (wd 23 rfl) (wd 22 rfl) (wd 24 rfl) (wd 8 rfl) hy_9 pd_10 rfl (c_add hw hM0 hak hal (by omega) (fun _ => hbd1)) hMo0 rfl 0 rfl (by decide) (by decide) (by decide) (by decide) ?_
    rintro G1 hM1
    have hM1 : Iq G1 1 2 3 bd [a] [(0, ar .int [.int c, .int 0, .int 0])] := by simpa [own_add, h1, h2] using hM1
    obtain ⟨_, _, hMo1⟩ := hM1.ob
    refine go_aload e0_113 rfl rfl ?_
    refine go_virtual_0 e0_115 (wd 29 rfl) (wd 30 rfl) (wd 32 rfl) (wd 31 rfl) (wd 33 rfl) (wd 8 rfl) hy_9 pd_11 rfl (c_poll hw hM1 (by omega)) hMo1 rfl 0 rfl (by decide) (by decide) (by decide) (by decide) ?_
    rintro _ G2 ⟨rfl, hM2⟩
    obtain ⟨_, _, hMo2⟩ := hM2.ob
    refine go_istore_13 e0_118 rfl ?_
    refine go_iload e0_120 rfl ?_
    refine go_iload e0_122 rfl ?_
    refine go_iceqY e0_124 (tg := 129) (by decide) rfl ?_
    refine go_aload e0_129 rfl rfl ?_
    refine go_iload e0_131 rfl ?_
    refine go_virtualV_1 e0_133 (wd 20 rfl) (wd 21 rfl) (wd 23 rfl) (wd 22 rfl) (wd 24 rfl) (wd 8 rfl) hy_9 pd_10 rfl (c_add hw hM2 hck hcl (by omega) (fun _ => hbd1)) hMo2 rfl 0 rfl (by decide) (by decide) (by decide) (by decide) ?_
    rintro G3 hM3
    have hM3 : Iq G3 1 2 3 bd [c] [(0, ar .int [.int c, .int 0, .int 0])] := by simpa [own_add, h1, h2] using hM3
    obtain ⟨_, _, hMo3⟩ := hM3.ob
    refine go_aload e0_136 rfl rfl ?_
    refine go_iload e0_138 rfl ?_
    refine go_virtualV_1 e0_140 (wd 20 rfl) (wd 21 rfl) (wd 23 rfl) (wd 22 rfl) (wd 24 rfl) (wd 8 rfl) hy_9 pd_10 rfl (c_add hw hM3 hdk hdl (by omega) (fun z => absurd (by simp [h1]) z)) hMo3 rfl 0 rfl (by decide) (by decide) (by decide) (by decide) ?_
    rintro G4 hM4
    have hM4 : Iq G4 1 2 3 bd [c] [(0, ar .int [.int c, .int 0, .int 0])] := by simpa [own_add, h1, h2] using hM4
    obtain ⟨_, _, hMo4⟩ := hM4.ob
    refine go_aload e0_143 rfl rfl ?_
    refine go_iload e0_145 rfl ?_
    refine go_virtualV_1 e0_147 (wd 20 rfl) (wd 21 rfl) (wd 23 rfl) (wd 22 rfl) (wd 24 rfl) (wd 8 rfl) hy_9 pd_10 rfl (c_add hw hM4 hfk hfl (by omega) (fun z => absurd (by simp [h1, h2]) z)) hMo4 rfl 0 rfl (by decide) (by decide) (by decide) (by decide) ?_
    rintro G5 hM5
    have hM5 : Iq G5 1 2 3 bd [c] [(0, ar .int [.int c, .int 0, .int 0])] := by simpa [own_add, h1, h2] using hM5
    obtain ⟨_, _, hMo5⟩ := hM5.ob
    refine go_aload e0_150 rfl rfl ?_
    refine go_virtual_0 e0_152 (wd 29 rfl) (wd 30 rfl) (wd 32 rfl) (wd 31 rfl) (wd 33 rfl) (wd 8 rfl) hy_9 pd_11 rfl (c_poll hw hM5 (by omega)) hMo5 rfl 0 rfl (by decide) (by decide) (by decide) (by decide) ?_
    rintro _ G6 ⟨rfl, hM6⟩
    obtain ⟨_, _, hMo6⟩ := hM6.ob
    refine go_istore_14 e0_155 rfl ?_
    refine go_iload e0_157 rfl ?_
    refine go_aload e0_159 rfl rfl ?_
    refine go_iconst e0_161 (x := 0) rfl ?_
    refine go_iaload e0_162 hM6.kept (k := 0) (by decide) rfl ?_
    refine go_iceqY e0_163 (tg := 168) (by decide) rfl ?_
    refine go_iload e0_168 rfl ?_
    refine go_iconst e0_170 (x := 2) rfl ?_
    refine go_icltY e0_171 (tg := 192) (by decide) (by decide) ?_
    refine go_iload e0_192 rfl ?_
    refine go_iconst e0_194 (x := 3) rfl ?_
    refine go_icltY e0_195 (tg := 216) (by decide) (by decide) ?_
    refine go_aload e0_216 rfl rfl ?_
    refine go_virtual_0 e0_218 (wd 34 rfl) (wd 35 rfl) (wd 37 rfl) (wd 36 rfl) (wd 38 rfl) (wd 8 rfl) hy_9 pd_12 rfl (c_emp hw hM6) hMo6 rfl 0 rfl (by decide) (by decide) (by decide) (by decide) ?_
    rintro _ _ ⟨rfl, rfl⟩
    refine go_zreturn e0_221 rfl (by decide) (by decide) (by decide) ?_
    exact congrArg (fun z => some (Value.int z)) (by decide)
  · refine go_iconst e0_40 (x := 3) rfl ?_
    refine go_newarray e0_41 (wd 5 rfl) (k := 3) rfl (vs := [.int 0, .int 0, .int 0]) rfl (cap := 3) (by decide) (by decide) (by decide) (by decide) ?_
    simp only [List.replicate_succ, List.replicate_zero, List.set_cons_zero, List.set_cons_succ, List.length_nil, List.length_cons, Nat.zero_add, Nat.reduceAdd, List.nil_append, List.cons_append]
    refine go_astore_10 e0_43 rfl rfl ?_
    refine go_iconst e0_45 (x := 1) rfl ?_
    refine go_istore_11 e0_46 rfl ?_
    refine go_aload e0_48 rfl rfl ?_
    refine go_iconst e0_50 (x := 0) rfl ?_
    refine go_iload e0_51 rfl ?_
    refine go_iastore e0_53 rfl (k := 0) (by decide) (Nat.le_of_ble_eq_true rfl) ?_
    simp only [List.replicate_succ, List.replicate_zero, List.set_cons_zero, List.set_cons_succ, List.length_nil, List.length_cons, Nat.zero_add, Nat.reduceAdd, List.nil_append, List.cons_append]
    refine go_iload e0_54 rfl ?_
    refine go_iload e0_56 rfl ?_
    refine go_iceqY e0_58 (tg := 71) (by decide) h1 ?_
    refine go_iload e0_71 rfl ?_
    refine go_iload e0_73 rfl ?_
    refine go_iceqN e0_75 (tg := 95) (by decide) h2 ?_
    refine go_iload e0_78 rfl ?_
    refine go_iload e0_80 rfl ?_
    refine go_iceqN e0_82 (tg := 95) (by decide) h3 ?_
    refine go_aload e0_85 rfl rfl ?_
    refine go_iload e0_87 rfl ?_
    refine go_iload e0_89 rfl ?_
    refine go_iastore e0_91 rfl (k := 1) (by decide) (Nat.le_of_ble_eq_true rfl) ?_
    simp only [List.replicate_succ, List.replicate_zero, List.set_cons_zero, List.set_cons_succ, List.length_nil, List.length_cons, Nat.zero_add, Nat.reduceAdd, List.nil_append, List.cons_append]
    refine go_iinc_11 e0_92 rfl ?_
    refine go_new e0_95 (wd 6 rfl) (wd 7 rfl) (wd 8 rfl) (lay_7 hw) nd_8 (by decide) (by decide) ?_
    simp only [List.replicate_succ, List.replicate_zero, List.set_cons_zero, List.set_cons_succ, List.length_nil, List.length_cons, Nat.zero_add, Nat.reduceAdd, List.nil_append, List.cons_append]
    refine go_dup e0_98 rfl ?_
    refine go_iload e0_99 rfl ?_
    refine go_specialV_1 rfl e0_101 (wd 9 rfl) (wd 10 rfl) (wd 11 rfl) (wd 8 rfl) hy_9 pd_10 rfl (c_init hw (K := [(0, ar .int [.int c, .int f, .int 0])]) rfl hbd hbd1 hbd4 (fun p hp => by cases List.mem_singleton.mp hp; exact ⟨rfl, Nat.zero_ne_one⟩)) rfl 1 rfl (by decide) (by decide) (by decide) (by decide) ?_
    rintro G0 hM0
    have hM0 : Iq G0 1 2 3 bd [] [(0, ar .int [.int c, .int f, .int 0])] := hM0
    obtain ⟨_, _, hMo0⟩ := hM0.ob
    refine go_astore_12 e0_104 rfl rfl ?_
    refine go_aload e0_106 rfl rfl ?_
    refine go_iload e0_108 rfl ?_
    refine go_virtualV_1 e0_110 (wd 20 rfl) (wd 21 rfl) (wd 23 rfl) (wd 22 rfl) (wd 24 rfl) (wd 8 rfl) hy_9 pd_10 rfl (c_add hw hM0 hak hal (by omega) (fun _ => hbd1)) hMo0 rfl 0 rfl (by decide) (by decide) (by decide) (by decide) ?_
    rintro G1 hM1
    have hM1 : Iq G1 1 2 3 bd [a] [(0, ar .int [.int c, .int f, .int 0])] := by simpa [own_add, h1, h2, h3] using hM1
    obtain ⟨_, _, hMo1⟩ := hM1.ob
    refine go_aload e0_113 rfl rfl ?_
    refine go_virtual_0 e0_115 (wd 29 rfl) (wd 30 rfl) (wd 32 rfl) (wd 31 rfl) (wd 33 rfl) (wd 8 rfl) hy_9 pd_11 rfl (c_poll hw hM1 (by omega)) hMo1 rfl 0 rfl (by decide) (by decide) (by decide) (by decide) ?_
    rintro _ G2 ⟨rfl, hM2⟩
    obtain ⟨_, _, hMo2⟩ := hM2.ob
    refine go_istore_13 e0_118 rfl ?_
    refine go_iload e0_120 rfl ?_
    refine go_iload e0_122 rfl ?_
    refine go_iceqY e0_124 (tg := 129) (by decide) rfl ?_
    refine go_aload e0_129 rfl rfl ?_
    refine go_iload e0_131 rfl ?_
    refine go_virtualV_1 e0_133 (wd 20 rfl) (wd 21 rfl) (wd 23 rfl) (wd 22 rfl) (wd 24 rfl) (wd 8 rfl) hy_9 pd_10 rfl (c_add hw hM2 hck hcl (by omega) (fun _ => hbd1)) hMo2 rfl 0 rfl (by decide) (by decide) (by decide) (by decide) ?_
    rintro G3 hM3
    have hM3 : Iq G3 1 2 3 bd [c] [(0, ar .int [.int c, .int f, .int 0])] := by simpa [own_add, h1, h2, h3] using hM3
    obtain ⟨_, _, hMo3⟩ := hM3.ob
    refine go_aload e0_136 rfl rfl ?_
    refine go_iload e0_138 rfl ?_
    refine go_virtualV_1 e0_140 (wd 20 rfl) (wd 21 rfl) (wd 23 rfl) (wd 22 rfl) (wd 24 rfl) (wd 8 rfl) hy_9 pd_10 rfl (c_add hw hM3 hdk hdl (by omega) (fun z => absurd (by simp [h1]) z)) hMo3 rfl 0 rfl (by decide) (by decide) (by decide) (by decide) ?_
    rintro G4 hM4
    have hM4 : Iq G4 1 2 3 bd [c] [(0, ar .int [.int c, .int f, .int 0])] := by simpa [own_add, h1, h2, h3] using hM4
    obtain ⟨_, _, hMo4⟩ := hM4.ob
    refine go_aload e0_143 rfl rfl ?_
    refine go_iload e0_145 rfl ?_
    refine go_virtualV_1 e0_147 (wd 20 rfl) (wd 21 rfl) (wd 23 rfl) (wd 22 rfl) (wd 24 rfl) (wd 8 rfl) hy_9 pd_10 rfl (c_add hw hM4 hfk hfl (by omega) (fun _ => own_two hck hfk hcl hfl h2)) hMo4 rfl 0 rfl (by decide) (by decide) (by decide) (by decide) ?_
    rintro G5 hM5
    have hM5 : Iq G5 1 2 3 bd [c, f] [(0, ar .int [.int c, .int f, .int 0])] := by simpa [own_add, h1, h2, h3] using hM5
    obtain ⟨_, _, hMo5⟩ := hM5.ob
    refine go_aload e0_150 rfl rfl ?_
    refine go_virtual_0 e0_152 (wd 29 rfl) (wd 30 rfl) (wd 32 rfl) (wd 31 rfl) (wd 33 rfl) (wd 8 rfl) hy_9 pd_11 rfl (c_poll hw hM5 (by omega)) hMo5 rfl 0 rfl (by decide) (by decide) (by decide) (by decide) ?_
    rintro _ G6 ⟨rfl, hM6⟩
    obtain ⟨_, _, hMo6⟩ := hM6.ob
    refine go_istore_14 e0_155 rfl ?_
    refine go_iload e0_157 rfl ?_
    refine go_aload e0_159 rfl rfl ?_
    refine go_iconst e0_161 (x := 0) rfl ?_
    refine go_iaload e0_162 hM6.kept (k := 0) (by decide) rfl ?_
    refine go_iceqY e0_163 (tg := 168) (by decide) rfl ?_
    refine go_iload e0_168 rfl ?_
    refine go_iconst e0_170 (x := 2) rfl ?_
    refine go_icltN e0_171 (tg := 192) (by decide) (by decide) ?_
    refine go_aload e0_174 rfl rfl ?_
    refine go_virtual_0 e0_176 (wd 29 rfl) (wd 30 rfl) (wd 32 rfl) (wd 31 rfl) (wd 33 rfl) (wd 8 rfl) hy_9 pd_11 rfl (c_poll hw hM6 (by omega)) hMo6 rfl 0 rfl (by decide) (by decide) (by decide) (by decide) ?_
    rintro _ G7 ⟨rfl, hM7⟩
    obtain ⟨_, _, hMo7⟩ := hM7.ob
    refine go_istore_15 e0_179 rfl ?_
    refine go_iload e0_181 rfl ?_
    refine go_aload e0_183 rfl rfl ?_
    refine go_iconst e0_185 (x := 1) rfl ?_
    refine go_iaload e0_186 hM7.kept (k := 1) (by decide) rfl ?_
    refine go_iceqY e0_187 (tg := 192) (by decide) rfl ?_
    refine go_iload e0_192 rfl ?_
    refine go_iconst e0_194 (x := 3) rfl ?_
    refine go_icltY e0_195 (tg := 216) (by decide) (by decide) ?_
    refine go_aload e0_216 rfl rfl ?_
    refine go_virtual_0 e0_218 (wd 34 rfl) (wd 35 rfl) (wd 37 rfl) (wd 36 rfl) (wd 38 rfl) (wd 8 rfl) hy_9 pd_12 rfl (c_emp hw hM7) hMo7 rfl 0 rfl (by decide) (by decide) (by decide) (by decide) ?_
    rintro _ _ ⟨rfl, rfl⟩
    refine go_zreturn e0_221 rfl (by decide) (by decide) (by decide) ?_
    exact congrArg (fun z => some (Value.int z)) (by decide)
  · refine go_iconst e0_40 (x := 3) rfl ?_
    refine go_newarray e0_41 (wd 5 rfl) (k := 3) rfl (vs := [.int 0, .int 0, .int 0]) rfl (cap := 3) (by decide) (by decide) (by decide) (by decide) ?_
    simp only [List.replicate_succ, List.replicate_zero, List.set_cons_zero, List.set_cons_succ, List.length_nil, List.length_cons, Nat.zero_add, Nat.reduceAdd, List.nil_append, List.cons_append]
    refine go_astore_10 e0_43 rfl rfl ?_
    refine go_iconst e0_45 (x := 1) rfl ?_
    refine go_istore_11 e0_46 rfl ?_
    refine go_aload e0_48 rfl rfl ?_
    refine go_iconst e0_50 (x := 0) rfl ?_
    refine go_iload e0_51 rfl ?_
    refine go_iastore e0_53 rfl (k := 0) (by decide) (Nat.le_of_ble_eq_true rfl) ?_
    simp only [List.replicate_succ, List.replicate_zero, List.set_cons_zero, List.set_cons_succ, List.length_nil, List.length_cons, Nat.zero_add, Nat.reduceAdd, List.nil_append, List.cons_append]
    refine go_iload e0_54 rfl ?_
    refine go_iload e0_56 rfl ?_
    refine go_iceqN e0_58 (tg := 71) (by decide) h1 ?_
    refine go_aload e0_61 rfl rfl ?_
    refine go_iload e0_63 rfl ?_
    refine go_iload e0_65 rfl ?_
    refine go_iastore e0_67 rfl (k := 1) (by decide) (Nat.le_of_ble_eq_true rfl) ?_
    simp only [List.replicate_succ, List.replicate_zero, List.set_cons_zero, List.set_cons_succ, List.length_nil, List.length_cons, Nat.zero_add, Nat.reduceAdd, List.nil_append, List.cons_append]
    refine go_iinc_11 e0_68 rfl ?_
    refine go_iload e0_71 rfl ?_
    refine go_iload e0_73 rfl ?_
    refine go_iceqY e0_75 (tg := 95) (by decide) h2 ?_
    refine go_new e0_95 (wd 6 rfl) (wd 7 rfl) (wd 8 rfl) (lay_7 hw) nd_8 (by decide) (by decide) ?_
    simp only [List.replicate_succ, List.replicate_zero, List.set_cons_zero, List.set_cons_succ, List.length_nil, List.length_cons, Nat.zero_add, Nat.reduceAdd, List.nil_append, List.cons_append]
    refine go_dup e0_98 rfl ?_
    refine go_iload e0_99 rfl ?_
    refine go_specialV_1 rfl e0_101 (wd 9 rfl) (wd 10 rfl) (wd 11 rfl) (wd 8 rfl) hy_9 pd_10 rfl (c_init hw (K := [(0, ar .int [.int c, .int d, .int 0])]) rfl hbd hbd1 hbd4 (fun p hp => by cases List.mem_singleton.mp hp; exact ⟨rfl, Nat.zero_ne_one⟩)) rfl 1 rfl (by decide) (by decide) (by decide) (by decide) ?_
    rintro G0 hM0
    have hM0 : Iq G0 1 2 3 bd [] [(0, ar .int [.int c, .int d, .int 0])] := hM0
    obtain ⟨_, _, hMo0⟩ := hM0.ob
    refine go_astore_12 e0_104 rfl rfl ?_
    refine go_aload e0_106 rfl rfl ?_
    refine go_iload e0_108 rfl ?_
    refine go_virtualV_1 e0_110 (wd 20 rfl) (wd 21 rfl) (wd 23 rfl) (wd 22 rfl) (wd 24 rfl) (wd 8 rfl) hy_9 pd_10 rfl (c_add hw hM0 hak hal (by omega) (fun _ => hbd1)) hMo0 rfl 0 rfl (by decide) (by decide) (by decide) (by decide) ?_
    rintro G1 hM1
    have hM1 : Iq G1 1 2 3 bd [a] [(0, ar .int [.int c, .int d, .int 0])] := by simpa [own_add, h1, h2] using hM1
    obtain ⟨_, _, hMo1⟩ := hM1.ob
    refine go_aload e0_113 rfl rfl ?_
    refine go_virtual_0 e0_115 (wd 29 rfl) (wd 30 rfl) (wd 32 rfl) (wd 31 rfl) (wd 33 rfl) (wd 8 rfl) hy_9 pd_11 rfl (c_poll hw hM1 (by omega)) hMo1 rfl 0 rfl (by decide) (by decide) (by decide) (by decide) ?_
    rintro _ G2 ⟨rfl, hM2⟩
    obtain ⟨_, _, hMo2⟩ := hM2.ob
    refine go_istore_13 e0_118 rfl ?_
    refine go_iload e0_120 rfl ?_
    refine go_iload e0_122 rfl ?_
    refine go_iceqY e0_124 (tg := 129) (by decide) rfl ?_
    refine go_aload e0_129 rfl rfl ?_
    refine go_iload e0_131 rfl ?_
    refine go_virtualV_1 e0_133 (wd 20 rfl) (wd 21 rfl) (wd 23 rfl) (wd 22 rfl) (wd 24 rfl) (wd 8 rfl) hy_9 pd_10 rfl (c_add hw hM2 hck hcl (by omega) (fun _ => hbd1)) hMo2 rfl 0 rfl (by decide) (by decide) (by decide) (by decide) ?_
    rintro G3 hM3
    have hM3 : Iq G3 1 2 3 bd [c] [(0, ar .int [.int c, .int d, .int 0])] := by simpa [own_add, h1, h2] using hM3
    obtain ⟨_, _, hMo3⟩ := hM3.ob
    refine go_aload e0_136 rfl rfl ?_
    refine go_iload e0_138 rfl ?_
    refine go_virtualV_1 e0_140 (wd 20 rfl) (wd 21 rfl) (wd 23 rfl) (wd 22 rfl) (wd 24 rfl) (wd 8 rfl) hy_9 pd_10 rfl (c_add hw hM3 hdk hdl (by omega) (fun _ => own_two hck hdk hcl hdl h1)) hMo3 rfl 0 rfl (by decide) (by decide) (by decide) (by decide) ?_
    rintro G4 hM4
    have hM4 : Iq G4 1 2 3 bd [c, d] [(0, ar .int [.int c, .int d, .int 0])] := by simpa [own_add, h1, h2] using hM4
    obtain ⟨_, _, hMo4⟩ := hM4.ob
    refine go_aload e0_143 rfl rfl ?_
    refine go_iload e0_145 rfl ?_
    refine go_virtualV_1 e0_147 (wd 20 rfl) (wd 21 rfl) (wd 23 rfl) (wd 22 rfl) (wd 24 rfl) (wd 8 rfl) hy_9 pd_10 rfl (c_add hw hM4 hfk hfl (by omega) (fun z => absurd (by simp [h1, h2]) z)) hMo4 rfl 0 rfl (by decide) (by decide) (by decide) (by decide) ?_
    rintro G5 hM5
    have hM5 : Iq G5 1 2 3 bd [c, d] [(0, ar .int [.int c, .int d, .int 0])] := by simpa [own_add, h1, h2] using hM5
    obtain ⟨_, _, hMo5⟩ := hM5.ob
    refine go_aload e0_150 rfl rfl ?_
    refine go_virtual_0 e0_152 (wd 29 rfl) (wd 30 rfl) (wd 32 rfl) (wd 31 rfl) (wd 33 rfl) (wd 8 rfl) hy_9 pd_11 rfl (c_poll hw hM5 (by omega)) hMo5 rfl 0 rfl (by decide) (by decide) (by decide) (by decide) ?_
    rintro _ G6 ⟨rfl, hM6⟩
    obtain ⟨_, _, hMo6⟩ := hM6.ob
    refine go_istore_14 e0_155 rfl ?_
    refine go_iload e0_157 rfl ?_
    refine go_aload e0_159 rfl rfl ?_
    refine go_iconst e0_161 (x := 0) rfl ?_
    refine go_iaload e0_162 hM6.kept (k := 0) (by decide) rfl ?_
    refine go_iceqY e0_163 (tg := 168) (by decide) rfl ?_
    refine go_iload e0_168 rfl ?_
    refine go_iconst e0_170 (x := 2) rfl ?_
    refine go_icltN e0_171 (tg := 192) (by decide) (by decide) ?_
    refine go_aload e0_174 rfl rfl ?_
    refine go_virtual_0 e0_176 (wd 29 rfl) (wd 30 rfl) (wd 32 rfl) (wd 31 rfl) (wd 33 rfl) (wd 8 rfl) hy_9 pd_11 rfl (c_poll hw hM6 (by omega)) hMo6 rfl 0 rfl (by decide) (by decide) (by decide) (by decide) ?_
    rintro _ G7 ⟨rfl, hM7⟩
    obtain ⟨_, _, hMo7⟩ := hM7.ob
    refine go_istore_15 e0_179 rfl ?_
    refine go_iload e0_181 rfl ?_
    refine go_aload e0_183 rfl rfl ?_
    refine go_iconst e0_185 (x := 1) rfl ?_
    refine go_iaload e0_186 hM7.kept (k := 1) (by decide) rfl ?_
    refine go_iceqY e0_187 (tg := 192) (by decide) rfl ?_
    refine go_iload e0_192 rfl ?_
    refine go_iconst e0_194 (x := 3) rfl ?_
    refine go_icltY e0_195 (tg := 216) (by decide) (by decide) ?_
    refine go_aload e0_216 rfl rfl ?_
    refine go_virtual_0 e0_218 (wd 34 rfl) (wd 35 rfl) (wd 37 rfl) (wd 36 rfl) (wd 38 rfl) (wd 8 rfl) hy_9 pd_12 rfl (c_emp hw hM7) hMo7 rfl 0 rfl (by decide) (by decide) (by decide) (by decide) ?_
    rintro _ _ ⟨rfl, rfl⟩
    refine go_zreturn e0_221 rfl (by decide) (by decide) (by decide) ?_
    exact congrArg (fun z => some (Value.int z)) (by decide)
  · refine go_iconst e0_40 (x := 3) rfl ?_
    refine go_newarray e0_41 (wd 5 rfl) (k := 3) rfl (vs := [.int 0, .int 0, .int 0]) rfl (cap := 3) (by decide) (by decide) (by decide) (by decide) ?_
    simp only [List.replicate_succ, List.replicate_zero, List.set_cons_zero, List.set_cons_succ, List.length_nil, List.length_cons, Nat.zero_add, Nat.reduceAdd, List.nil_append, List.cons_append]
    refine go_astore_10 e0_43 rfl rfl ?_
    refine go_iconst e0_45 (x := 1) rfl ?_
    refine go_istore_11 e0_46 rfl ?_
    refine go_aload e0_48 rfl rfl ?_
    refine go_iconst e0_50 (x := 0) rfl ?_
    refine go_iload e0_51 rfl ?_
    refine go_iastore e0_53 rfl (k := 0) (by decide) (Nat.le_of_ble_eq_true rfl) ?_
    simp only [List.replicate_succ, List.replicate_zero, List.set_cons_zero, List.set_cons_succ, List.length_nil, List.length_cons, Nat.zero_add, Nat.reduceAdd, List.nil_append, List.cons_append]
    refine go_iload e0_54 rfl ?_
    refine go_iload e0_56 rfl ?_
    refine go_iceqN e0_58 (tg := 71) (by decide) h1 ?_
    refine go_aload e0_61 rfl rfl ?_
    refine go_iload e0_63 rfl ?_
    refine go_iload e0_65 rfl ?_
    refine go_iastore e0_67 rfl (k := 1) (by decide) (Nat.le_of_ble_eq_true rfl) ?_
    simp only [List.replicate_succ, List.replicate_zero, List.set_cons_zero, List.set_cons_succ, List.length_nil, List.length_cons, Nat.zero_add, Nat.reduceAdd, List.nil_append, List.cons_append]
    refine go_iinc_11 e0_68 rfl ?_
    refine go_iload e0_71 rfl ?_
    refine go_iload e0_73 rfl ?_
    refine go_iceqN e0_75 (tg := 95) (by decide) h2 ?_
    refine go_iload e0_78 rfl ?_
    refine go_iload e0_80 rfl ?_
    refine go_iceqY e0_82 (tg := 95) (by decide) h3 ?_
    refine go_new e0_95 (wd 6 rfl) (wd 7 rfl) (wd 8 rfl) (lay_7 hw) nd_8 (by decide) (by decide) ?_
    simp only [List.replicate_succ, List.replicate_zero, List.set_cons_zero, List.set_cons_succ, List.length_nil, List.length_cons, Nat.zero_add, Nat.reduceAdd, List.nil_append, List.cons_append]
    refine go_dup e0_98 rfl ?_
    refine go_iload e0_99 rfl ?_
    refine go_specialV_1 rfl e0_101 (wd 9 rfl) (wd 10 rfl) (wd 11 rfl) (wd 8 rfl) hy_9 pd_10 rfl (c_init hw (K := [(0, ar .int [.int c, .int d, .int 0])]) rfl hbd hbd1 hbd4 (fun p hp => by cases List.mem_singleton.mp hp; exact ⟨rfl, Nat.zero_ne_one⟩)) rfl 1 rfl (by decide) (by decide) (by decide) (by decide) ?_
    rintro G0 hM0
    have hM0 : Iq G0 1 2 3 bd [] [(0, ar .int [.int c, .int d, .int 0])] := hM0
    obtain ⟨_, _, hMo0⟩ := hM0.ob
    refine go_astore_12 e0_104 rfl rfl ?_
    refine go_aload e0_106 rfl rfl ?_
    refine go_iload e0_108 rfl ?_
    refine go_virtualV_1 e0_110 (wd 20 rfl) (wd 21 rfl) (wd 23 rfl) (wd 22 rfl) (wd 24 rfl) (wd 8 rfl) hy_9 pd_10 rfl (c_add hw hM0 hak hal (by omega) (fun _ => hbd1)) hMo0 rfl 0 rfl (by decide) (by decide) (by decide) (by decide) ?_
    rintro G1 hM1
    have hM1 : Iq G1 1 2 3 bd [a] [(0, ar .int [.int c, .int d, .int 0])] := by simpa [own_add, h1, h2, h3] using hM1
    obtain ⟨_, _, hMo1⟩ := hM1.ob
    refine go_aload e0_113 rfl rfl ?_
    refine go_virtual_0 e0_115 (wd 29 rfl) (wd 30 rfl) (wd 32 rfl) (wd 31 rfl) (wd 33 rfl) (wd 8 rfl) hy_9 pd_11 rfl (c_poll hw hM1 (by omega)) hMo1 rfl 0 rfl (by decide) (by decide) (by decide) (by decide) ?_
    rintro _ G2 ⟨rfl, hM2⟩
    obtain ⟨_, _, hMo2⟩ := hM2.ob
    refine go_istore_13 e0_118 rfl ?_
    refine go_iload e0_120 rfl ?_
    refine go_iload e0_122 rfl ?_
    refine go_iceqY e0_124 (tg := 129) (by decide) rfl ?_
    refine go_aload e0_129 rfl rfl ?_
    refine go_iload e0_131 rfl ?_
    refine go_virtualV_1 e0_133 (wd 20 rfl) (wd 21 rfl) (wd 23 rfl) (wd 22 rfl) (wd 24 rfl) (wd 8 rfl) hy_9 pd_10 rfl (c_add hw hM2 hck hcl (by omega) (fun _ => hbd1)) hMo2 rfl 0 rfl (by decide) (by decide) (by decide) (by decide) ?_
    rintro G3 hM3
    have hM3 : Iq G3 1 2 3 bd [c] [(0, ar .int [.int c, .int d, .int 0])] := by simpa [own_add, h1, h2, h3] using hM3
    obtain ⟨_, _, hMo3⟩ := hM3.ob
    refine go_aload e0_136 rfl rfl ?_
    refine go_iload e0_138 rfl ?_
    refine go_virtualV_1 e0_140 (wd 20 rfl) (wd 21 rfl) (wd 23 rfl) (wd 22 rfl) (wd 24 rfl) (wd 8 rfl) hy_9 pd_10 rfl (c_add hw hM3 hdk hdl (by omega) (fun _ => own_two hck hdk hcl hdl h1)) hMo3 rfl 0 rfl (by decide) (by decide) (by decide) (by decide) ?_
    rintro G4 hM4
    have hM4 : Iq G4 1 2 3 bd [c, d] [(0, ar .int [.int c, .int d, .int 0])] := by simpa [own_add, h1, h2, h3] using hM4
    obtain ⟨_, _, hMo4⟩ := hM4.ob
    refine go_aload e0_143 rfl rfl ?_
    refine go_iload e0_145 rfl ?_
    refine go_virtualV_1 e0_147 (wd 20 rfl) (wd 21 rfl) (wd 23 rfl) (wd 22 rfl) (wd 24 rfl) (wd 8 rfl) hy_9 pd_10 rfl (c_add hw hM4 hfk hfl (by omega) (fun z => absurd (by simp [h1, h2, h3]) z)) hMo4 rfl 0 rfl (by decide) (by decide) (by decide) (by decide) ?_
    rintro G5 hM5
    have hM5 : Iq G5 1 2 3 bd [c, d] [(0, ar .int [.int c, .int d, .int 0])] := by simpa [own_add, h1, h2, h3] using hM5
    obtain ⟨_, _, hMo5⟩ := hM5.ob
    refine go_aload e0_150 rfl rfl ?_
    refine go_virtual_0 e0_152 (wd 29 rfl) (wd 30 rfl) (wd 32 rfl) (wd 31 rfl) (wd 33 rfl) (wd 8 rfl) hy_9 pd_11 rfl (c_poll hw hM5 (by omega)) hMo5 rfl 0 rfl (by decide) (by decide) (by decide) (by decide) ?_
    rintro _ G6 ⟨rfl, hM6⟩
    obtain ⟨_, _, hMo6⟩ := hM6.ob
    refine go_istore_14 e0_155 rfl ?_
    refine go_iload e0_157 rfl ?_
    refine go_aload e0_159 rfl rfl ?_
    refine go_iconst e0_161 (x := 0) rfl ?_
    refine go_iaload e0_162 hM6.kept (k := 0) (by decide) rfl ?_
    refine go_iceqY e0_163 (tg := 168) (by decide) rfl ?_
    refine go_iload e0_168 rfl ?_
    refine go_iconst e0_170 (x := 2) rfl ?_
    refine go_icltN e0_171 (tg := 192) (by decide) (by decide) ?_
    refine go_aload e0_174 rfl rfl ?_
    refine go_virtual_0 e0_176 (wd 29 rfl) (wd 30 rfl) (wd 32 rfl) (wd 31 rfl) (wd 33 rfl) (wd 8 rfl) hy_9 pd_11 rfl (c_poll hw hM6 (by omega)) hMo6 rfl 0 rfl (by decide) (by decide) (by decide) (by decide) ?_
    rintro _ G7 ⟨rfl, hM7⟩
    obtain ⟨_, _, hMo7⟩ := hM7.ob
    refine go_istore_15 e0_179 rfl ?_
    refine go_iload e0_181 rfl ?_
    refine go_aload e0_183 rfl rfl ?_
    refine go_iconst e0_185 (x := 1) rfl ?_
    refine go_iaload e0_186 hM7.kept (k := 1) (by decide) rfl ?_
    refine go_iceqY e0_187 (tg := 192) (by decide) rfl ?_
    refine go_iload e0_192 rfl ?_
    refine go_iconst e0_194 (x := 3) rfl ?_
    refine go_icltY e0_195 (tg := 216) (by decide) (by decide) ?_
    refine go_aload e0_216 rfl rfl ?_
    refine go_virtual_0 e0_218 (wd 34 rfl) (wd 35 rfl) (wd 37 rfl) (wd 36 rfl) (wd 38 rfl) (wd 8 rfl) hy_9 pd_12 rfl (c_emp hw hM7) hMo7 rfl 0 rfl (by decide) (by decide) (by decide) (by decide) ?_
    rintro _ _ ⟨rfl, rfl⟩
    refine go_zreturn e0_221 rfl (by decide) (by decide) (by decide) ?_
    exact congrArg (fun z => some (Value.int z)) (by decide)
  · refine go_iconst e0_40 (x := 3) rfl ?_
    refine go_newarray e0_41 (wd 5 rfl) (k := 3) rfl (vs := [.int 0, .int 0, .int 0]) rfl (cap := 3) (by decide) (by decide) (by decide) (by decide) ?_
    simp only [List.replicate_succ, List.replicate_zero, List.set_cons_zero, List.set_cons_succ, List.length_nil, List.length_cons, Nat.zero_add, Nat.reduceAdd, List.nil_append, List.cons_append]
    refine go_astore_10 e0_43 rfl rfl ?_
    refine go_iconst e0_45 (x := 1) rfl ?_
    refine go_istore_11 e0_46 rfl ?_
    refine go_aload e0_48 rfl rfl ?_
    refine go_iconst e0_50 (x := 0) rfl ?_
    refine go_iload e0_51 rfl ?_
    refine go_iastore e0_53 rfl (k := 0) (by decide) (Nat.le_of_ble_eq_true rfl) ?_
    simp only [List.replicate_succ, List.replicate_zero, List.set_cons_zero, List.set_cons_succ, List.length_nil, List.length_cons, Nat.zero_add, Nat.reduceAdd, List.nil_append, List.cons_append]
    refine go_iload e0_54 rfl ?_
    refine go_iload e0_56 rfl ?_
    refine go_iceqN e0_58 (tg := 71) (by decide) h1 ?_
    refine go_aload e0_61 rfl rfl ?_
    refine go_iload e0_63 rfl ?_
    refine go_iload e0_65 rfl ?_
    refine go_iastore e0_67 rfl (k := 1) (by decide) (Nat.le_of_ble_eq_true rfl) ?_
    simp only [List.replicate_succ, List.replicate_zero, List.set_cons_zero, List.set_cons_succ, List.length_nil, List.length_cons, Nat.zero_add, Nat.reduceAdd, List.nil_append, List.cons_append]
    refine go_iinc_11 e0_68 rfl ?_
    refine go_iload e0_71 rfl ?_
    refine go_iload e0_73 rfl ?_
    refine go_iceqN e0_75 (tg := 95) (by decide) h2 ?_
    refine go_iload e0_78 rfl ?_
    refine go_iload e0_80 rfl ?_
    refine go_iceqN e0_82 (tg := 95) (by decide) h3 ?_
    refine go_aload e0_85 rfl rfl ?_
    refine go_iload e0_87 rfl ?_
    refine go_iload e0_89 rfl ?_
    refine go_iastore e0_91 rfl (k := 2) (by decide) (Nat.le_of_ble_eq_true rfl) ?_
    simp only [List.replicate_succ, List.replicate_zero, List.set_cons_zero, List.set_cons_succ, List.length_nil, List.length_cons, Nat.zero_add, Nat.reduceAdd, List.nil_append, List.cons_append]
    refine go_iinc_11 e0_92 rfl ?_
    refine go_new e0_95 (wd 6 rfl) (wd 7 rfl) (wd 8 rfl) (lay_7 hw) nd_8 (by decide) (by decide) ?_
    simp only [List.replicate_succ, List.replicate_zero, List.set_cons_zero, List.set_cons_succ, List.length_nil, List.length_cons, Nat.zero_add, Nat.reduceAdd, List.nil_append, List.cons_append]
    refine go_dup e0_98 rfl ?_
    refine go_iload e0_99 rfl ?_
    refine go_specialV_1 rfl e0_101 (wd 9 rfl) (wd 10 rfl) (wd 11 rfl) (wd 8 rfl) hy_9 pd_10 rfl (c_init hw (K := [(0, ar .int [.int c, .int d, .int f])]) rfl hbd hbd1 hbd4 (fun p hp => by cases List.mem_singleton.mp hp; exact ⟨rfl, Nat.zero_ne_one⟩)) rfl 1 rfl (by decide) (by decide) (by decide) (by decide) ?_
    rintro G0 hM0
    have hM0 : Iq G0 1 2 3 bd [] [(0, ar .int [.int c, .int d, .int f])] := hM0
    obtain ⟨_, _, hMo0⟩ := hM0.ob
    refine go_astore_12 e0_104 rfl rfl ?_
    refine go_aload e0_106 rfl rfl ?_
    refine go_iload e0_108 rfl ?_
    refine go_virtualV_1 e0_110 (wd 20 rfl) (wd 21 rfl) (wd 23 rfl) (wd 22 rfl) (wd 24 rfl) (wd 8 rfl) hy_9 pd_10 rfl (c_add hw hM0 hak hal (by omega) (fun _ => hbd1)) hMo0 rfl 0 rfl (by decide) (by decide) (by decide) (by decide) ?_
    rintro G1 hM1
    have hM1 : Iq G1 1 2 3 bd [a] [(0, ar .int [.int c, .int d, .int f])] := by simpa [own_add, h1, h2, h3] using hM1
    obtain ⟨_, _, hMo1⟩ := hM1.ob
    refine go_aload e0_113 rfl rfl ?_
    refine go_virtual_0 e0_115 (wd 29 rfl) (wd 30 rfl) (wd 32 rfl) (wd 31 rfl) (wd 33 rfl) (wd 8 rfl) hy_9 pd_11 rfl (c_poll hw hM1 (by omega)) hMo1 rfl 0 rfl (by decide) (by decide) (by decide) (by decide) ?_
    rintro _ G2 ⟨rfl, hM2⟩
    obtain ⟨_, _, hMo2⟩ := hM2.ob
    refine go_istore_13 e0_118 rfl ?_
    refine go_iload e0_120 rfl ?_
    refine go_iload e0_122 rfl ?_
    refine go_iceqY e0_124 (tg := 129) (by decide) rfl ?_
    refine go_aload e0_129 rfl rfl ?_
    refine go_iload e0_131 rfl ?_
    refine go_virtualV_1 e0_133 (wd 20 rfl) (wd 21 rfl) (wd 23 rfl) (wd 22 rfl) (wd 24 rfl) (wd 8 rfl) hy_9 pd_10 rfl (c_add hw hM2 hck hcl (by omega) (fun _ => hbd1)) hMo2 rfl 0 rfl (by decide) (by decide) (by decide) (by decide) ?_
    rintro G3 hM3
    have hM3 : Iq G3 1 2 3 bd [c] [(0, ar .int [.int c, .int d, .int f])] := by simpa [own_add, h1, h2, h3] using hM3
    obtain ⟨_, _, hMo3⟩ := hM3.ob
    refine go_aload e0_136 rfl rfl ?_
    refine go_iload e0_138 rfl ?_
    refine go_virtualV_1 e0_140 (wd 20 rfl) (wd 21 rfl) (wd 23 rfl) (wd 22 rfl) (wd 24 rfl) (wd 8 rfl) hy_9 pd_10 rfl (c_add hw hM3 hdk hdl (by omega) (fun _ => own_two hck hdk hcl hdl h1)) hMo3 rfl 0 rfl (by decide) (by decide) (by decide) (by decide) ?_
    rintro G4 hM4
    have hM4 : Iq G4 1 2 3 bd [c, d] [(0, ar .int [.int c, .int d, .int f])] := by simpa [own_add, h1, h2, h3] using hM4
    obtain ⟨_, _, hMo4⟩ := hM4.ob
    refine go_aload e0_143 rfl rfl ?_
    refine go_iload e0_145 rfl ?_
    refine go_virtualV_1 e0_147 (wd 20 rfl) (wd 21 rfl) (wd 23 rfl) (wd 22 rfl) (wd 24 rfl) (wd 8 rfl) hy_9 pd_10 rfl (c_add hw hM4 hfk hfl (by omega) (fun _ => own_three hck hdk hfk hcl hdl hfl h1 h2 h3)) hMo4 rfl 0 rfl (by decide) (by decide) (by decide) (by decide) ?_
    rintro G5 hM5
    have hM5 : Iq G5 1 2 3 bd [c, d, f] [(0, ar .int [.int c, .int d, .int f])] := by simpa [own_add, h1, h2, h3] using hM5
    obtain ⟨_, _, hMo5⟩ := hM5.ob
    refine go_aload e0_150 rfl rfl ?_
    refine go_virtual_0 e0_152 (wd 29 rfl) (wd 30 rfl) (wd 32 rfl) (wd 31 rfl) (wd 33 rfl) (wd 8 rfl) hy_9 pd_11 rfl (c_poll hw hM5 (by omega)) hMo5 rfl 0 rfl (by decide) (by decide) (by decide) (by decide) ?_
    rintro _ G6 ⟨rfl, hM6⟩
    obtain ⟨_, _, hMo6⟩ := hM6.ob
    refine go_istore_14 e0_155 rfl ?_
    refine go_iload e0_157 rfl ?_
    refine go_aload e0_159 rfl rfl ?_
    refine go_iconst e0_161 (x := 0) rfl ?_
    refine go_iaload e0_162 hM6.kept (k := 0) (by decide) rfl ?_
    refine go_iceqY e0_163 (tg := 168) (by decide) rfl ?_
    refine go_iload e0_168 rfl ?_
    refine go_iconst e0_170 (x := 2) rfl ?_
    refine go_icltN e0_171 (tg := 192) (by decide) (by decide) ?_
    refine go_aload e0_174 rfl rfl ?_
    refine go_virtual_0 e0_176 (wd 29 rfl) (wd 30 rfl) (wd 32 rfl) (wd 31 rfl) (wd 33 rfl) (wd 8 rfl) hy_9 pd_11 rfl (c_poll hw hM6 (by omega)) hMo6 rfl 0 rfl (by decide) (by decide) (by decide) (by decide) ?_
    rintro _ G7 ⟨rfl, hM7⟩
    obtain ⟨_, _, hMo7⟩ := hM7.ob
    refine go_istore_15 e0_179 rfl ?_
    refine go_iload e0_181 rfl ?_
    refine go_aload e0_183 rfl rfl ?_
    refine go_iconst e0_185 (x := 1) rfl ?_
    refine go_iaload e0_186 hM7.kept (k := 1) (by decide) rfl ?_
    refine go_iceqY e0_187 (tg := 192) (by decide) rfl ?_
    refine go_iload e0_192 rfl ?_
    refine go_iconst e0_194 (x := 3) rfl ?_
    refine go_icltN e0_195 (tg := 216) (by decide) (by decide) ?_
    refine go_aload e0_198 rfl rfl ?_
    refine go_virtual_0 e0_200 (wd 29 rfl) (wd 30 rfl) (wd 32 rfl) (wd 31 rfl) (wd 33 rfl) (wd 8 rfl) hy_9 pd_11 rfl (c_poll hw hM7 (by omega)) hMo7 rfl 0 rfl (by decide) (by decide) (by decide) (by decide) ?_
    rintro _ G8 ⟨rfl, hM8⟩
    obtain ⟨_, _, hMo8⟩ := hM8.ob
    refine go_istore_15 e0_203 rfl ?_
    refine go_iload e0_205 rfl ?_
    refine go_aload e0_207 rfl rfl ?_
    refine go_iconst e0_209 (x := 2) rfl ?_
    refine go_iaload e0_210 hM8.kept (k := 2) (by decide) rfl ?_
    refine go_iceqY e0_211 (tg := 216) (by decide) rfl ?_
    refine go_aload e0_216 rfl rfl ?_
    refine go_virtual_0 e0_218 (wd 34 rfl) (wd 35 rfl) (wd 37 rfl) (wd 36 rfl) (wd 38 rfl) (wd 8 rfl) hy_9 pd_12 rfl (c_emp hw hM8) hMo8 rfl 0 rfl (by decide) (by decide) (by decide) (by decide) ?_
    rintro _ _ ⟨rfl, rfl⟩
    refine go_zreturn e0_221 rfl (by decide) (by decide) (by decide) ?_
    exact congrArg (fun z => some (Value.int z)) (by decide)
set_option maxRecDepth 65536 in
set_option maxHeartbeats 40000000 in
theorem comes_1 {Post : Tables → Env → Array Value → State → Outcome → State → Prop} (hpost : ∀ tb e args s v u, (limb_1_1.after args s (.returned v) u = true ∧ limb_1_2.after args s (.returned v) u = true ∧ True) → FrameEnd s (.returned v) u (Jvm.fieldLocs frame_1_writes args s ++ Jvm.arrayLocs frame_1_arrays args s ++ Jvm.staticLocs frame_1_statics s) 16 128 → Post tb e args s (.returned v) u) :
    ArmFor flags0 classFile x code maxLocals ret World_1 tables_1 room_1 Calls_1 rest_1 Pre_1 Post := by
  intro l hfl _ _ p e ha hc hk s m args below hf hA hF happ hP
  obtain ⟨hcalls, hrest, hpre⟩ := hP
  obtain ⟨-, -, -, hnamed, -, -, -, hat⟩ := (Spec.applies_iff hf).mp happ
  obtain ⟨hg, hn⟩ := and_e (Cond.before_iff.mp (show (Jvm.Cond.and given_1 narrow_1).before args s = true from hpre))
  obtain ⟨h1, h2⟩ := and_e hg
  obtain ⟨w0, w1, w2, w3, w4, rfl⟩ : ∃ w0 w1 w2 w3 w4 : Value, args = #[w0, w1, w2, w3, w4] := by
    have hs : args.size = 5 := by simpa [Cond.value, given_1] using h1
    obtain ⟨L⟩ := args
    match L, hs with
    | [w0, w1, w2, w3, w4], _ => exact ⟨w0, w1, w2, w3, w4, rfl⟩
  have hw := fun d (hd : d ∈ tables_1) => atoms_spec (ws := Jvm.Cond.code x code maxLocals ret :: tables_1) hat d (List.mem_cons_of_mem _ hd)
  obtain ⟨a0, b0⟩ := and_e h2
  obtain ⟨i0, e0⟩ := is_v a0
  obtain rfl : w0 = (.int i0) := Option.some.inj e0
  obtain ⟨a1, b1⟩ := and_e b0
  obtain ⟨i1, e1⟩ := is_v a1
  obtain rfl : w1 = (.int i1) := Option.some.inj e1
  obtain ⟨a2, b2⟩ := and_e b1
  obtain ⟨i2, e2⟩ := is_v a2
  obtain rfl : w2 = (.int i2) := Option.some.inj e2
  obtain ⟨a3, b3⟩ := and_e b2
  obtain ⟨i3, e3⟩ := is_v a3
  obtain rfl : w3 = (.int i3) := Option.some.inj e3
  obtain ⟨i4, e4⟩ := is_v b3
  obtain rfl : w4 = (.int i4) := Option.some.inj e4
  obtain ⟨n, o, h1, h2, h3, _, L, rfl, ⟨N, v', H', rfl, -, rfl⟩, hq⟩ := law_met (l := l) (Z := s) (b := s.heap.size) hw i0 i1 i2 i3 i4 s.heap (Rel.nil s.heap) tables_1 p e ha hc hk s m _ below hf ((Spec.applies_iff_loose hf).mp happ).1 ⟨rfl, State.Warmed39.refl s, rfl⟩ trivial
  refine ⟨n, _, h1, h2, h3, hpost _ _ _ _ _ _ ⟨Cond.after_iff.mpr rfl, Cond.after_iff.mpr (eq_i res_at (Term.int_eval (1)) rfl), trivial⟩ ⟨hq.1, hq.2.1, (hq.2.2.sift fun y hy => Or.inr (N y hy)).mono (by decide) (by decide)⟩⟩
theorem main_1_1 : Claimed_1_1 := comes_1 fun _ _ _ _ _ _ h hF => ⟨h.1, hF⟩
theorem main_1_2 : Claimed_1_2 := comes_1 fun _ _ _ _ _ _ h hF => ⟨h.2.1, hF⟩
end Jvm.Pilot.@@N@@
namespace Jvm.Pilot.@@N@@
open Jvm Jvm.ClassFile Sem Op Lib Jvm.Free Jvm.Stand Jvm.Pilot.@@N@@.Jvm.D
/-! MADE BY PROGRAM (witnessworld.py) out of the Statement's table words and the real class files: 11 classes; the members and pool entries that the words name. The judged class is class 1, her method 2. -/
namespace start1
open Jvm.ClassFile
def u (s : String) : CpInfo := .utf8 (stringToUtf16 s)
/-- a pool by its gaps: so many unusable entries, then the entry; so many at the end -/
def gap : Nat → List CpInfo → List CpInfo
  | 0, r => r
  | n + 1, r => .unusable :: gap n r
def poolList (es : List (Nat × CpInfo)) (last : Nat) : List CpInfo := es.foldr (fun e r => gap e.1 (e.2 :: r)) (gap last [])
def pool (es : List (Nat × CpInfo)) (last : Nat) : Array CpInfo := ⟨poolList es last⟩
def fileOf (pool : Array CpInfo) (this : Nat) (attrs : Array Attribute := #[]) (ms : Array MethodInfo := #[]) (fl : Nat := 33) (sup : Nat := 0) (ifs : Array Nat := #[]) (fds : Array FieldInfo := #[]) : ClassFile where
  minorVersion := 0
  majorVersion := 65
  constantPool := pool
  accessFlags := fl
  thisClass := this
  superClass := sup
  interfaces := ifs
  fields := fds
  methods := ms
  attributes := attrs
def plain (name : String) (sup : Option ClassId) : Class where
  name := name
  kind := .ordinary
  loader := none
  accessFlags := 33
  super := sup
  interfaces := #[]
  cf := none
  fields := #[]
  methods := #[]
  instanceTypes := #[]
  staticTypes := #[]
  resolved := #[]
  callSites := []
  init := .initialized
  statics := none
  mirror := none

def pool0 : Array CpInfo := pool [(5, u "<init>"), (0, u "()V"), (1, .class_ 10), (1, u "java/lang/Object")] 113

def k0c0 : Code := { maxStack := 0, maxLocals := 1, code := object_method_1_code, exceptionTable := #[], attributes := #[] }
def k0m0 : Method := { name := "<init>", desc := "()V", sig := { parameters := [], returnType := none }, accessFlags := 1, code := some k0c0 }
/-- java/lang/Object -/
def k0 : Class := { plain "java/lang/Object" none with
  accessFlags := 33
  interfaces := #[]
  cf := some (fileOf pool0 8 #[] #[{ accessFlags := 1, nameIndex := 5, descriptorIndex := 6, attributes := #[] }] 33 0 #[] #[])
  fields := #[]
  methods := #[k0m0]
  instanceTypes := #[]
  staticTypes := #[]
  resolved := Array.replicate 124 none
  statics := none }

def pool1 : Array CpInfo := pool [(2, .class_ 4), (1, u "java/lang/Object"), (0, u "<init>"), (0, u "()V"), (0, .integer 2147483647), (0, .methodref 9 10), (0, .class_ 11), (0, .nameAndType 12 13), (0, u "com/example/covenant/covenant/engine/IndexQueueAddPinLaw"), (0, u "idx"), (0, u "(II)I"), (0, .class_ 15), (0, u "com/example/covenant/covenant/engine/IndexQueue"), (0, .methodref 14 17), (0, .nameAndType 5 18), (0, u "(I)V"), (0, .methodref 14 20), (0, .nameAndType 21 18), (0, u "add"), (0, .methodref 14 23), (0, .nameAndType 24 25), (0, u "poll"), (0, u "()I"), (0, .methodref 14 27), (0, .nameAndType 28 29), (0, u "isEmpty"), (0, u "()Z"), (2, u "law"), (0, u "(IIIII)Z")] 5

def k1m0 : Method := { name := "<init>", desc := "()V", sig := { parameters := [], returnType := none }, accessFlags := 1, code := none }
def k1c1 : Code := { maxStack := 2, maxLocals := 2, code := method_2_code, exceptionTable := #[], attributes := #[] }
def k1m1 : Method := { name := "idx", desc := "(II)I", sig := { parameters := [.int, .int], returnType := some .int }, accessFlags := 10, code := some k1c1 }
def k1c2 : Code := { maxStack := 3, maxLocals := 16, code := code, exceptionTable := #[], attributes := #[] }
def k1m2 : Method := { name := "law", desc := "(IIIII)Z", sig := { parameters := [.int, .int, .int, .int, .int], returnType := some .boolean }, accessFlags := 9, code := some k1c2 }
/-- com/example/covenant/covenant/engine/IndexQueueAddPinLaw -/
def k1 : Class := { plain "com/example/covenant/covenant/engine/IndexQueueAddPinLaw" (some 0) with
  accessFlags := 49
  interfaces := #[]
  cf := some (fileOf pool1 9 #[] #[{ accessFlags := 1, nameIndex := 5, descriptorIndex := 6, attributes := #[] }, { accessFlags := 10, nameIndex := 12, descriptorIndex := 13, attributes := #[] }, { accessFlags := 9, nameIndex := 32, descriptorIndex := 33, attributes := #[] }] 49 2 #[] #[])
  fields := #[]
  methods := #[k1m0, k1m1, k1m2]
  instanceTypes := #[]
  staticTypes := #[]
  resolved := Array.replicate 39 none
  statics := none }

def pool2 : Array CpInfo := pool [(1, .methodref 2 3), (0, .class_ 4), (0, .nameAndType 5 6), (0, u "java/lang/Object"), (0, u "<init>"), (0, u "()V"), (0, .fieldref 8 9), (0, .class_ 10), (0, .nameAndType 11 12), (0, u "com/example/covenant/covenant/engine/IndexQueue"), (0, u "ring"), (0, u "[I"), (0, .fieldref 8 14), (0, .nameAndType 15 16), (0, u "queued"), (0, u "[Z"), (0, .fieldref 8 18), (0, .nameAndType 19 20), (0, u "size"), (0, u "I"), (0, .fieldref 8 22), (0, .nameAndType 23 20), (0, u "head"), (2, u "poll"), (0, u "()I"), (0, u "(I)V"), (2, u "isEmpty"), (0, u "()Z"), (1, u "add")] 4

def k2c0 : Code := { maxStack := 2, maxLocals := 2, code := prog_28_method_1_code, exceptionTable := #[], attributes := #[] }
def k2m0 : Method := { name := "<init>", desc := "(I)V", sig := { parameters := [.int], returnType := none }, accessFlags := 0, code := some k2c0 }
def k2c1 : Code := { maxStack := 1, maxLocals := 1, code := prog_28_method_2_code, exceptionTable := #[], attributes := #[] }
def k2m1 : Method := { name := "isEmpty", desc := "()Z", sig := { parameters := [], returnType := some .boolean }, accessFlags := 0, code := some k2c1 }
def k2c2 : Code := { maxStack := 3, maxLocals := 3, code := prog_28_method_3_code, exceptionTable := #[], attributes := #[] }
def k2m2 : Method := { name := "add", desc := "(I)V", sig := { parameters := [.int], returnType := none }, accessFlags := 0, code := some k2c2 }
def k2c3 : Code := { maxStack := 3, maxLocals := 2, code := prog_28_method_4_code, exceptionTable := #[], attributes := #[] }
def k2m3 : Method := { name := "poll", desc := "()I", sig := { parameters := [], returnType := some .int }, accessFlags := 0, code := some k2c3 }
/-- com/example/covenant/covenant/engine/IndexQueue -/
def k2 : Class := { plain "com/example/covenant/covenant/engine/IndexQueue" (some 0) with
  accessFlags := 48
  interfaces := #[]
  cf := some (fileOf pool2 8 #[] #[{ accessFlags := 0, nameIndex := 5, descriptorIndex := 28, attributes := #[] }, { accessFlags := 0, nameIndex := 31, descriptorIndex := 32, attributes := #[] }, { accessFlags := 0, nameIndex := 34, descriptorIndex := 28, attributes := #[] }, { accessFlags := 0, nameIndex := 26, descriptorIndex := 27, attributes := #[] }] 48 2 #[] #[{ accessFlags := 18, nameIndex := 11, descriptorIndex := 12, attributes := #[] }, { accessFlags := 18, nameIndex := 15, descriptorIndex := 16, attributes := #[] }, { accessFlags := 2, nameIndex := 23, descriptorIndex := 20, attributes := #[] }, { accessFlags := 2, nameIndex := 19, descriptorIndex := 20, attributes := #[] }])
  fields := #[{ name := "ring", type := (.array .int), accessFlags := 18, slot := 0, constantValue := 0 }, { name := "queued", type := (.array .boolean), accessFlags := 18, slot := 1, constantValue := 0 }, { name := "head", type := .int, accessFlags := 2, slot := 2, constantValue := 0 }, { name := "size", type := .int, accessFlags := 2, slot := 3, constantValue := 0 }]
  methods := #[k2m0, k2m1, k2m2, k2m3]
  instanceTypes := #[(.array .int), (.array .boolean), .int, .int]
  staticTypes := #[]
  resolved := Array.replicate 39 none
  statics := none }

def pool3 : Array CpInfo := pool [(1, u "java/lang/Cloneable"), (0, .class_ 1), (0, u "java/lang/Object"), (0, .class_ 3)] 3

/-- java/lang/Cloneable -/
def k3 : Class := { plain "java/lang/Cloneable" (some 0) with
  accessFlags := 1537
  interfaces := #[]
  cf := some (fileOf pool3 2 #[] #[] 1537 4 #[] #[])
  fields := #[]
  methods := #[]
  instanceTypes := #[]
  staticTypes := #[]
  resolved := Array.replicate 8 none
  statics := none }

def pool4 : Array CpInfo := pool [(1, u "java/io/Serializable"), (0, .class_ 1), (0, u "java/lang/Object"), (0, .class_ 3)] 3

/-- java/io/Serializable -/
def k4 : Class := { plain "java/io/Serializable" (some 0) with
  accessFlags := 1537
  interfaces := #[]
  cf := some (fileOf pool4 2 #[] #[] 1537 4 #[] #[])
  fields := #[]
  methods := #[]
  instanceTypes := #[]
  staticTypes := #[]
  resolved := Array.replicate 8 none
  statics := none }

/-- the primitive boolean -/
def k5 : Class := { plain "boolean" none with kind := .primitive 'Z', accessFlags := 0x411 }
/-- [Z -/
def k6 : Class := { plain "[Z" (some 0) with kind := .array 5 .boolean, interfaces := #[3, 4], accessFlags := 1041 }

/-- the primitive byte -/
def k7 : Class := { plain "byte" none with kind := .primitive 'B', accessFlags := 0x411 }
/-- [B -/
def k8 : Class := { plain "[B" (some 0) with kind := .array 7 .byte, interfaces := #[3, 4], accessFlags := 1041 }

/-- the primitive int -/
def k9 : Class := { plain "int" none with kind := .primitive 'I', accessFlags := 0x411 }
/-- [I -/
def k10 : Class := { plain "[I" (some 0) with kind := .array 9 .int, interfaces := #[3, 4], accessFlags := 1041 }

def heap : Heap := #[]
def classes : Array Class := #[k0, k1, k2, k3, k4, k5, k6, k7, k8, k9, k10]
def interned : List (Array UInt16 × Addr) := []
def slotsUsed : Nat := 0
def theMethod : MethodId := ⟨1, 2⟩
def args0 : Array Value := #[.int 5, .int 2, .int 9, .int 1, .int 4]
def aboutOver (below : List Frame) : State where
  vm := { classes := classes, interned := interned.toArray }
  heap := heap
  slotsUsed := slotsUsed
  threads := #[{ frames := .invoking theMethod args0 :: below }]
def below0 : List Frame := [.native { method := ⟨0, 0⟩, args := #[] }]
def about1 : State := aboutOver below0
def p0 : Program := .bare "" "" ""
def e0 : Env := launch0.env 0 0 0
theorem w_frames : about1.frames = Frame.invoking theMethod args0 :: below0 := rfl
set_option maxRecDepth 65536 in
theorem w_args : argsFit about1.vm theMethod args0 = true := by decide +kernel
set_option maxRecDepth 65536 in
theorem w_heap : heapFits about1 = true := by decide +kernel
set_option maxRecDepth 65536 in
theorem w_runnable : about1.curStatus? = some .runnable := by decide +kernel
set_option maxRecDepth 65536 in
theorem w_alone : about1.alone = true := by decide +kernel
set_option maxRecDepth 65536 in
theorem w_named : about1.methodNamed? x = some theMethod := by decide +kernel
set_option maxRecDepth 65536 in
theorem w_hears : about1.hears theMethod below0 = true := by decide +kernel
set_option maxRecDepth 65536 in
theorem w_ripe : about1.ripe theMethod args0 below0 = true := by decide +kernel
theorem w_running : about1.status = .running := rfl
set_option maxRecDepth 65536 in
theorem w_room : about1.hasRoom e0.platform room_1 = true :=
  launch0.hasRoom_least _ room_1 (by decide +kernel) (by decide +kernel) (by decide +kernel) (by decide +kernel) (by decide +kernel) (by decide +kernel)
theorem allAtoms_all (ts : List Jvm.Cond) (a : Array Jvm.Value) (st : Jvm.State) : (allAtoms ts).before a st = ts.all (fun c => c.before a st) := by
  induction ts with
  | nil => rfl
  | cons c t ih =>
    show (Jvm.Cond.and c (allAtoms t)).before a st = _
    rw [Jvm.Cond.before_and, ih, List.all_cons]
def words1 : List Jvm.Cond := Jvm.Cond.code x code maxLocals ret :: tables_1
/-- a 'code' word, met by the world's own term for the bytes: nothing is compared byte by byte -/
theorem code_word {y : MethodName} {bytes : ByteArray} {mx : Nat} {rt : Option FieldType} {a : Array Value} {s : State} {m : MethodId} {meth : Method} {c : Code} (h1 : s.methodNamed? y = some m) (h2 : s.vm.method? m = some meth) (h3 : meth.code = some c) (h4 : c.code = bytes)
    (h5 : (c.maxLocals == mx && c.exceptionTable.isEmpty && decide (c.maxStack ≤ mostOperands) && decide (meth.sig.returnType = rt) && !meth.locks && decide (parseMethodDescriptor y.desc = some meth.sig)) = true) : (Jvm.Cond.code y bytes mx rt).before a s = true := by
  simp only [Bool.and_eq_true, beq_iff_eq, Bool.not_eq_true', decide_eq_true_eq] at h5
  obtain ⟨⟨⟨⟨⟨g1, g2⟩, g3⟩, g4⟩, g5⟩, g6⟩ := h5
  simp [Cond.before, Cond.holds, Cond.value, h1, h2, h3, h4, g1, g2, g3, g4, g5, g6]
def isCode : Jvm.Cond → Bool
  | .code _ _ _ _ => true
  | _ => false
theorem all_split {L : List Jvm.Cond} {P : Jvm.Cond → Bool} (h1 : L.all (fun c => isCode c || P c) = true) (h2 : ∀ c ∈ L.filter isCode, P c = true) : L.all P = true := by
  refine List.all_eq_true.mpr fun c hc => ?_
  have h := List.all_eq_true.mp h1 c hc
  rcases Bool.eq_false_or_eq_true (isCode c) with hi | hi
  · exact h2 c (List.mem_filter.mpr ⟨hc, hi⟩)
  · simpa [hi] using h
set_option maxRecDepth 65536 in
theorem w_c0 : (Jvm.Cond.code x code maxLocals ret).before args0 about1 = true := code_word (m := ⟨1, 2⟩) (meth := k1m2) (c := k1c2) (by decide +kernel) rfl rfl rfl (by decide +kernel)
set_option maxRecDepth 65536 in
theorem w_c1 : (Jvm.Cond.code ({ cls := "com/example/covenant/covenant/engine/IndexQueueAddPinLaw", name := "idx", desc := "(II)I" } : Jvm.MethodName) method_2_code (2 : Nat) (Option.some Jvm.ClassFile.FieldType.int)).before args0 about1 = true := code_word (m := ⟨1, 1⟩) (meth := k1m1) (c := k1c1) (by decide +kernel) rfl rfl rfl (by decide +kernel)
set_option maxRecDepth 65536 in
theorem w_c2 : (Jvm.Cond.code ({ cls := "com/example/covenant/covenant/engine/IndexQueue", name := "<init>", desc := "(I)V" } : Jvm.MethodName) prog_28_method_1_code (2 : Nat) (Option.none : Option Jvm.ClassFile.FieldType)).before args0 about1 = true := code_word (m := ⟨2, 0⟩) (meth := k2m0) (c := k2c0) (by decide +kernel) rfl rfl rfl (by decide +kernel)
set_option maxRecDepth 65536 in
theorem w_c3 : (Jvm.Cond.code ({ cls := "java/lang/Object", name := "<init>", desc := "()V" } : Jvm.MethodName) object_method_1_code (1 : Nat) (Option.none : Option Jvm.ClassFile.FieldType)).before args0 about1 = true := code_word (m := ⟨0, 0⟩) (meth := k0m0) (c := k0c0) (by decide +kernel) rfl rfl rfl (by decide +kernel)
set_option maxRecDepth 65536 in
theorem w_c4 : (Jvm.Cond.code ({ cls := "com/example/covenant/covenant/engine/IndexQueue", name := "add", desc := "(I)V" } : Jvm.MethodName) prog_28_method_3_code (3 : Nat) (Option.none : Option Jvm.ClassFile.FieldType)).before args0 about1 = true := code_word (m := ⟨2, 2⟩) (meth := k2m2) (c := k2c2) (by decide +kernel) rfl rfl rfl (by decide +kernel)
set_option maxRecDepth 65536 in
theorem w_c5 : (Jvm.Cond.code ({ cls := "com/example/covenant/covenant/engine/IndexQueue", name := "poll", desc := "()I" } : Jvm.MethodName) prog_28_method_4_code (2 : Nat) (Option.some Jvm.ClassFile.FieldType.int)).before args0 about1 = true := code_word (m := ⟨2, 3⟩) (meth := k2m3) (c := k2c3) (by decide +kernel) rfl rfl rfl (by decide +kernel)
set_option maxRecDepth 65536 in
theorem w_c6 : (Jvm.Cond.code ({ cls := "com/example/covenant/covenant/engine/IndexQueue", name := "isEmpty", desc := "()Z" } : Jvm.MethodName) prog_28_method_2_code (1 : Nat) (Option.some Jvm.ClassFile.FieldType.boolean)).before args0 about1 = true := code_word (m := ⟨2, 1⟩) (meth := k2m1) (c := k2c1) (by decide +kernel) rfl rfl rfl (by decide +kernel)
def codes1 : List Jvm.Cond := [Jvm.Cond.code x code maxLocals ret, Jvm.Cond.code ({ cls := "com/example/covenant/covenant/engine/IndexQueueAddPinLaw", name := "idx", desc := "(II)I" } : Jvm.MethodName) method_2_code (2 : Nat) (Option.some Jvm.ClassFile.FieldType.int), Jvm.Cond.code ({ cls := "com/example/covenant/covenant/engine/IndexQueue", name := "<init>", desc := "(I)V" } : Jvm.MethodName) prog_28_method_1_code (2 : Nat) (Option.none : Option Jvm.ClassFile.FieldType), Jvm.Cond.code ({ cls := "java/lang/Object", name := "<init>", desc := "()V" } : Jvm.MethodName) object_method_1_code (1 : Nat) (Option.none : Option Jvm.ClassFile.FieldType), Jvm.Cond.code ({ cls := "com/example/covenant/covenant/engine/IndexQueue", name := "add", desc := "(I)V" } : Jvm.MethodName) prog_28_method_3_code (3 : Nat) (Option.none : Option Jvm.ClassFile.FieldType), Jvm.Cond.code ({ cls := "com/example/covenant/covenant/engine/IndexQueue", name := "poll", desc := "()I" } : Jvm.MethodName) prog_28_method_4_code (2 : Nat) (Option.some Jvm.ClassFile.FieldType.int), Jvm.Cond.code ({ cls := "com/example/covenant/covenant/engine/IndexQueue", name := "isEmpty", desc := "()Z" } : Jvm.MethodName) prog_28_method_2_code (1 : Nat) (Option.some Jvm.ClassFile.FieldType.boolean)]
set_option maxRecDepth 65536 in
theorem codes_eq : words1.filter isCode = codes1 := rfl
theorem w_codes : ∀ c ∈ words1.filter isCode, c.before args0 about1 = true := by
  rw [codes_eq]
  intro c hc
  simp only [codes1, List.mem_cons, List.not_mem_nil, or_false] at hc
  rcases hc with rfl | rfl | rfl | rfl | rfl | rfl | rfl
  · exact w_c0
  · exact w_c1
  · exact w_c2
  · exact w_c3
  · exact w_c4
  · exact w_c5
  · exact w_c6
set_option maxRecDepth 65536 in
theorem w_t1 : (words1.take 24).all (fun c => isCode c || c.before args0 about1) = true := by decide +kernel
set_option maxRecDepth 65536 in
theorem w_t2 : (words1.drop 24).all (fun c => isCode c || c.before args0 about1) = true := by decide +kernel
theorem w_tables : (allAtoms (Jvm.Cond.code x code maxLocals ret :: tables_1)).before args0 about1 = true := by
  rw [allAtoms_all]
  show words1.all (fun c => c.before args0 about1) = true
  refine all_split ?_ w_codes
  rw [← List.take_append_drop 24 words1, List.all_append, w_t1, w_t2]
  rfl
set_option maxRecDepth 65536 in
theorem w_case : (Jvm.Cond.and given_1 narrow_1).before args0 about1 = true := by decide +kernel
theorem w_applies : (headSpec (Jvm.Cond.code x code maxLocals ret :: tables_1) room_1).applies x e0.platform about1 = true :=
  (Spec.applies_iff w_frames).mpr ⟨w_running, w_runnable, w_alone, w_named, w_hears, w_ripe, w_room, w_tables⟩
theorem atStart : AtStart classFile x code maxLocals ret World_1 tables_1 room_1 Calls_1 rest_1 Pre_1 launch0 p0 e0 about1 theMethod args0 below0 :=
  ⟨lists_1, trivial, launch0.admits_env _ _ _, launch0.least_env, fairChoices_fair.cas, fairChoices_fair.clock, w_frames, w_args, w_heap, w_applies, trivial, trivial, w_case⟩
end start1
theorem witness_1 : WitnessClaimed_1 := ⟨start1.p0, start1.e0, start1.about1, start1.theMethod, start1.args0, start1.below0, start1.atStart⟩
end Jvm.Pilot.@@N@@
