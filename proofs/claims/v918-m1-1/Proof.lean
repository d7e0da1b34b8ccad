import JvmDerived
import JvmDerived.Pilot.@@N@@Statement
import JvmDerived.Pilot.@@N@@Code
set_option linter.unusedVariables false
set_option linter.unusedSimpArgs false
namespace Jvm.GoKit
open Sem ClassFile Op Lib Jvm.Stand Jvm.Free Jvm.LawKit Jvm.RoadKit
/-! The walk as a backward predicate over a small abstract machine: refs count the cells made since the law began. -/
abbrev GCell := (String × List (String × String × Value)) ⊕ (FieldType × List Value)
abbrev ob (C : String) (fs : List (String × String × Value)) : GCell := Sum.inl (C, fs)
abbrev ar (t : FieldType) (vs : List Value) : GCell := Sum.inr (t, vs)
def upV (b : Nat) : Value → Value
  | .ref k => .ref (b + k)
  | .int x => .int x
  | .long x => .long x
  | .float x => .float x
  | .double x => .double x
  | .null => .null
  | .retAddr x => .retAddr x
def upS (b : Nat) : Slot → Slot
  | .val v => .val (upV b v)
  | .unset => .unset
  | .second => .second
theorem cat_up (b : Nat) (v : Value) : (upV b v).category = v.category := by cases v <;> rfl
theorem isRef_up (b : Nat) (v : Value) : (upV b v).isRef = v.isRef := by cases v <;> rfl
def CellOk (Z : State) (a0 : Array Value) (b : Nat) (h : Heap) (a : Addr) : GCell → Prop
  | Sum.inl (C, fs) => Exa Z h a C ∧ (∀ f ∈ fs, Fld Z h a C f.1 f.2.1 (upV b f.2.2) ∧ Laid Z a0 C C f.1 f.2.1 ∧ ∃ t, parseFieldDescriptor f.2.1 = some t) ∧ (fs.map (·.1)).Nodup
  | Sum.inr (ty, vs) => ∃ c : Cell, Arr Z h a c ty ∧ c.slots = (vs.map (upV b)).toArray
def Rel (Z : State) (a0 : Array Value) (b : Nat) (H : List GCell) (h : Heap) : Prop :=
  h.size = b + H.length ∧ ∀ (i : Nat) (mc : GCell), H[i]? = some mc → CellOk Z a0 b h (b + i) mc
section Rels
variable {Z : State} {a0 : Array Value} {b : Nat} {H : List GCell} {h h' : Heap} {a a' : Addr} {sl : Nat} {v : Value} {mc : GCell}
theorem CellOk.ext (E : Ext h h') (K : CellOk Z a0 b h a mc) : CellOk Z a0 b h' a mc := by
  rcases mc with ⟨C, fs⟩ | ⟨ty, vs⟩
  · obtain ⟨k1, k2, k3⟩ := K
    exact ⟨k1.ext E, fun f hf => ⟨(k2 f hf).1.ext E, (k2 f hf).2⟩, k3⟩
  · obtain ⟨c, A, e⟩ := K
    exact ⟨c, A.ext E, e⟩
theorem CellOk.other (W : Wr h h' a sl v) (ne : a' ≠ a) (K : CellOk Z a0 b h a' mc) : CellOk Z a0 b h' a' mc := by
  rcases mc with ⟨C, fs⟩ | ⟨ty, vs⟩
  · obtain ⟨k1, k2, k3⟩ := K
    exact ⟨k1.wr W, fun f hf => ⟨(k2 f hf).1.other W (Or.inl ne), (k2 f hf).2⟩, k3⟩
  · obtain ⟨c, A, e⟩ := K
    exact ⟨c, A.other W ne, e⟩
theorem Rel.nil (h : Heap) : Rel Z a0 h.size [] h := ⟨rfl, fun (i : Nat) mc q => by simp at q⟩
theorem Rel.push (RR : Rel Z a0 b H h) (E : Ext h h') (hs : h'.size = h.size + 1) (K : CellOk Z a0 b h' (b + H.length) mc) : Rel Z a0 b (H ++ [mc]) h' := by
  refine ⟨by rw [hs, RR.1]; simp; omega, fun (i : Nat) mc' q => ?_⟩
  rw [List.getElem?_append] at q
  split at q
  · exact (RR.2 i mc' q).ext E
  · rename_i hi
    have e : i = H.length := by
      by_cases e : i - H.length = 0
      · omega
      · rw [List.getElem?_eq_none (by simp; omega)] at q; cases q
    subst e
    simp at q
    exact q ▸ K
theorem Rel.wr (RR : Rel Z a0 b H h) {i : Nat} (W : Wr h h' (b + i) sl v) (K : CellOk Z a0 b h' (b + i) mc) : Rel Z a0 b (H.set i mc) h' := by
  refine ⟨by rw [W.size, RR.1]; simp, fun (j : Nat) mc' q => ?_⟩
  rw [List.getElem?_set] at q
  split at q
  · rename_i e
    subst e
    split at q
    · cases q; exact K
    · cases q
  · rename_i e
    exact (RR.2 j mc' q).other W (fun z => e (Nat.add_left_cancel z).symm)
theorem mem_setF {n d : String} {o : Value} : ∀ (fs : List (String × String × Value)) (j : Nat), (fs.map (·.1)).Nodup → fs[j]? = some (n, d, o) → ∀ f ∈ fs.set j (n, d, v), f = (n, d, v) ∨ (f ∈ fs ∧ f.1 ≠ n)
  | [], _, _, q, _, _ => by simp at q
  | g :: gs, 0, nd, q, f, hf => by
    simp only [List.getElem?_cons_zero, Option.some.injEq] at q
    subst q
    simp only [List.map_cons, List.nodup_cons] at nd
    simp only [List.set_cons_zero, List.mem_cons] at hf
    rcases hf with rfl | hf
    · exact Or.inl rfl
    · refine Or.inr ⟨List.mem_cons_of_mem _ hf, fun e => nd.1 ?_⟩
      exact List.mem_map.mpr ⟨f, hf, e⟩
  | g :: gs, j + 1, nd, q, f, hf => by
    simp only [List.getElem?_cons_succ] at q
    simp only [List.map_cons, List.nodup_cons] at nd
    simp only [List.set_cons_succ, List.mem_cons] at hf
    rcases hf with rfl | hf
    · refine Or.inr ⟨List.mem_cons_self .., fun e => nd.1 ?_⟩
      exact List.mem_map.mpr ⟨_, List.mem_of_getElem? q, e.symm⟩
    · rcases mem_setF gs j nd.2 q f hf with e | ⟨e1, e2⟩
      · exact Or.inl e
      · exact Or.inr ⟨List.mem_cons_of_mem _ e1, e2⟩
theorem map_setF {n d : String} {o : Value} : ∀ (fs : List (String × String × Value)) (j : Nat), fs[j]? = some (n, d, o) → (fs.set j (n, d, v)).map (·.1) = fs.map (·.1)
  | [], _, q => by simp at q
  | g :: gs, 0, q => by
    simp only [List.getElem?_cons_zero, Option.some.injEq] at q
    subst q; rfl
  | g :: gs, j + 1, q => by
    simp only [List.getElem?_cons_succ] at q
    simp only [List.set_cons_succ, List.map_cons, map_setF gs j q]
theorem CellOk.fset {C n d : String} {fs : List (String × String × Value)} {j : Nat} {o : Value} (K : CellOk Z a0 b h a (ob C fs)) (q : fs[j]? = some (n, d, o)) (W : Wr h h' a (Jvm.RoadKit.slotOf Z C n d) (upV b v)) : CellOk Z a0 b h' a (ob C (fs.set j (n, d, v))) := by
  obtain ⟨k1, k2, k3⟩ := K
  have m0 := List.mem_of_getElem? q
  obtain ⟨F, L, t, ht⟩ := k2 _ m0
  refine ⟨k1.wr W, fun f hf => ?_, by rw [map_setF fs j q]; exact k3⟩
  rcases mem_setF fs j k3 q f hf with rfl | ⟨e1, e2⟩
  · exact ⟨F.same W, L, t, ht⟩
  · obtain ⟨F', L', t', ht'⟩ := k2 _ e1
    exact ⟨F'.other W (Or.inr (slot_ne L' L e2 ht' ht)), L', t', ht'⟩
end Rels
theorem ne_oa {H : List GCell} {i j : Nat} {C : String} {fs : List (String × String × Value)} {t : FieldType} {vs : List Value} (h1 : H[i]? = some (ob C fs)) (h2 : H[j]? = some (ar t vs)) : i ≠ j := fun e => by subst e; rw [h1] at h2; cases h2
theorem get_ne {H : List GCell} {i j : Nat} {m m' : GCell} (h : H[j]? = some m) (ne : i ≠ j) : (H.set i m')[j]? = some m := by rw [List.getElem?_set_ne ne]; exact h
theorem get_eq {H : List GCell} {i : Nat} {m m' : GCell} (h : H[i]? = some m) : (H.set i m')[i]? = some m' := by
  have := (List.getElem?_eq_some_iff.mp h).1
  simp [this]
theorem get_app {H H2 : List GCell} {i : Nat} {m : GCell} (h : H[i]? = some m) : (H ++ H2)[i]? = some m := by
  have := (List.getElem?_eq_some_iff.mp h).1
  rw [List.getElem?_append_left this]; exact h
theorem get_last {H : List GCell} {m : GCell} : (H ++ [m])[H.length]? = some m := by simp
theorem set_same {α : Type} {l : List α} {k : Nat} {v : α} (h : l[k]? = some v) : l.set k v = l := by
  apply List.ext_getElem?
  intro j
  rw [List.getElem?_set]
  split
  · rename_i e; subst e
    obtain ⟨h1, h2⟩ := List.getElem?_eq_some_iff.mp h
    rw [if_pos h1, h]
  · rfl
def Dc (bytes : ByteArray) (pc : Nat) (i : Instr) (n nx : Nat) : Prop := decode bytes pc = .ok (i, n) ∧ pc + n = nx
theorem wd {W : List Jvm.Cond} {d : Jvm.Cond} (k : Nat) (h : W[k]? = some d) : d ∈ W := List.mem_of_getElem? h
def QQ (Z : State) (a0 : Array Value) (b : Nat) (Post : Option Value → List GCell → Prop) (v : Option Value) (h : Heap) (LL : List Loc) : Prop :=
  Fr b LL ∧ ∃ v' H', v = Option.map (upV b) v' ∧ Rel Z a0 b H' h ∧ Post v' H'
/-- a method's contract over the abstract machine -/
def Met (l : Launch) (Z : State) (a0 : Array Value) (b : Nat) (y : MethodName) (bytes : ByteArray) (maxL : Nat) (ret : Option FieldType) (rm : Room) (as : List Value) (H : List GCell) (Post : Option Value → List GCell → Prop) : Prop :=
  ∀ h, Rel Z a0 b H h → ∀ ws, MetFree l y (head1 (Jvm.Cond.code y bytes maxL ret :: ws) rm) (fun a U => a = (as.map (upV b)).toArray ∧ Z.Warmed39 U.vm ∧ U.heap = h) (fun _ _ _ _ _ => True)
    (fun _ U o U' => ∃ v LL, o = .returned v ∧ QQ Z a0 b Post v U'.heap LL ∧ FrameEnd U o U' LL rm.cells rm.slots)
/-- where a body is walked -/
def Cx (p : Program) (l : Launch) (e : Env) (R : Room) (s : State) (m : MethodId) (args : Array Value) (below : List Frame) (meth : Method) (c : Code) (Z : State) (a0 : Array Value) (W : List Jvm.Cond) (b : Nat) (y : MethodName) (bytes : ByteArray) (nL : Nat) (ret : Option FieldType) (Post : Option Value → List GCell → Prop) : Prop :=
  p.tables.exec = Jvm.exec ∧ Z.Warmed39 s.vm ∧ s.vm.findClass y.cls = some m.cls ∧ c.code = bytes ∧ c.maxLocals = nL ∧ meth.sig.returnType = ret ∧ meth.locks = false ∧ meth.name = y.name ∧ (∀ d ∈ W, d.before a0 Z = true)
section Walk
variable {p : Program} {l : Launch} {e : Env} {R : Room} {s : State} {m : MethodId} {args : Array Value} {below : List Frame} {meth : Method} {c : Code} {Z : State} {a0 : Array Value} {W : List Jvm.Cond} {b : Nat} {y : MethodName} {bytes : ByteArray} {nL : Nat} {ret : Option FieldType} {Post : Option Value → List GCell → Prop}
theorem Cx.exec (C : Cx p l e R s m args below meth c Z a0 W b y bytes nL ret Post) : p.tables.exec = Jvm.exec := C.1
theorem Cx.warm (C : Cx p l e R s m args below meth c Z a0 W b y bytes nL ret Post) : Z.Warmed39 s.vm := C.2.1
theorem Cx.own (C : Cx p l e R s m args below meth c Z a0 W b y bytes nL ret Post) : s.vm.findClass y.cls = some m.cls := C.2.2.1
theorem Cx.bys (C : Cx p l e R s m args below meth c Z a0 W b y bytes nL ret Post) : c.code = bytes := C.2.2.2.1
theorem Cx.ml (C : Cx p l e R s m args below meth c Z a0 W b y bytes nL ret Post) : c.maxLocals = nL := C.2.2.2.2.1
theorem Cx.rets (C : Cx p l e R s m args below meth c Z a0 W b y bytes nL ret Post) : meth.sig.returnType = ret := C.2.2.2.2.2.1
theorem Cx.nolock (C : Cx p l e R s m args below meth c Z a0 W b y bytes nL ret Post) : meth.locks = false := C.2.2.2.2.2.2.1
theorem Cx.named (C : Cx p l e R s m args below meth c Z a0 W b y bytes nL ret Post) : meth.name = y.name := C.2.2.2.2.2.2.2.1
theorem Cx.hw (C : Cx p l e R s m args below meth c Z a0 W b y bytes nL ret Post) : ∀ d ∈ W, d.before a0 Z = true := C.2.2.2.2.2.2.2.2
abbrev frm (b : Nat) (m : MethodId) (pc : Nat) (L : List Slot) (S : List Value) : JFrame := mkF m pc (L.map (upS b)).toArray (S.map (upV b))
def Ends (p : Program) (e : Env) (s : State) (R : Room) (b : Nat) (Z : State) (a0 : Array Value) (Post : Option Value → List GCell → Prop) (below : List Frame) (A : State) : Prop :=
  ∃ s₂ o, Steps p.tables e below A s₂ ∧ s₂.status = .running ∧ Ended s₂ below o ∧ ∃ v LL, o = .returned v ∧ QQ Z a0 b Post v s₂.heap LL ∧ FrameEnd s o s₂ LL R.cells R.slots
/-- from here the body returns, and Post holds of what it returns and of the heap -/
def Go (C : Cx p l e R s m args below meth c Z a0 W b y bytes nL ret Post) (pc : Nat) (L : List Slot) (S : List Value) (H : List GCell) (cells slots : Nat) : Prop :=
  ∀ T locs, Stand p l e R s m args below meth c T locs cells slots → Fr b locs → Rel Z a0 b H T.heap → Ends p e s R b Z a0 Post below (T.setTop (frm b m pc L S))
variable {C : Cx p l e R s m args below meth c Z a0 W b y bytes nL ret Post} {pc nx tg : Nat} {L L' : List Slot} {S S' : List Value} {H H' : List GCell} {cells slots : Nat}
theorem Ends.back {A B : State} (st : ∀ t, Steps p.tables e below B t → Steps p.tables e below A t) (h : Ends p e s R b Z a0 Post below B) : Ends p e s R b Z a0 Post below A := by
  obtain ⟨s₂, o, hs, hr⟩ := h
  exact ⟨s₂, o, st _ hs, hr⟩
theorem Go.more {cells' slots' : Nat} (h : Go C pc L S H cells' slots') (hc : cells ≤ cells') (hs : slots ≤ slots') : Go C pc L S H cells slots :=
  fun T locs X N RR => h T locs (X.more hc hs) N RR
theorem go_pure (st : ∀ (T : State) locs cells slots, Stand p l e R s m args below meth c T locs cells slots → ∀ t, Steps p.tables e below (T.setTop (frm b m nx L' S')) t → Steps p.tables e below (T.setTop (frm b m pc L S)) t) (h : Go C nx L' S' H cells slots) : Go C pc L S H cells slots :=
  fun T locs X N RR => (h T locs X N RR).back (st T locs _ _ X)
/-- a boolean reckoned by branches: the ways come together at pc' -/
theorem go_cut {pc' : Nat} {P : Int32 → Prop} (h1 : (∀ mb, P mb → Go C pc' L (.int mb :: S) H cells slots) → Go C pc L S H cells slots) (h2 : ∀ mb, P mb → Go C pc' L (.int mb :: S) H cells slots) : Go C pc L S H cells slots := h1 h2
theorem getL {k : Nat} {o : Slot} (h : L[k]? = some o) : (L.map (upS b)).toArray[k]? = some (upS b o) := by simp [h]
theorem go_iload {k : Nat} {x : Int32} (hd : Dc bytes pc (.iload k) 2 nx) (hl : L[k]? = some (.val (.int x))) (h : Go C nx L (.int x :: S) H cells slots) : Go C pc L S H cells slots :=
  go_pure (fun T _ _ _ X t k => by obtain ⟨hd, rfl⟩ := hd; exact XS.iload X.here C.exec rfl (hb C.bys hd) (getL hl) k) h
theorem go_iloadN {k : Fin 4} {x : Int32} (hd : Dc bytes pc (.iload_n k) 1 nx) (hl : L[k.val]? = some (.val (.int x))) (h : Go C nx L (.int x :: S) H cells slots) : Go C pc L S H cells slots :=
  go_pure (fun T _ _ _ X t k => by obtain ⟨hd, rfl⟩ := hd; exact XS.iloadN X.here C.exec rfl (hb C.bys hd) (getL hl) k) h
theorem go_lload {k : Nat} {x : Int64} (hd : Dc bytes pc (.lload k) 2 nx) (hl : L[k]? = some (.val (.long x))) (h : Go C nx L (.long x :: S) H cells slots) : Go C pc L S H cells slots :=
  go_pure (fun T _ _ _ X t k => by obtain ⟨hd, rfl⟩ := hd; exact XT.lload X.here C.exec rfl (hb C.bys hd) (getL hl) k) h
theorem go_lloadN {k : Fin 4} {x : Int64} (hd : Dc bytes pc (.lload_n k) 1 nx) (hl : L[k.val]? = some (.val (.long x))) (h : Go C nx L (.long x :: S) H cells slots) : Go C pc L S H cells slots :=
  go_pure (fun T _ _ _ X t k => by obtain ⟨hd, rfl⟩ := hd; exact XT.lloadN X.here C.exec rfl (hb C.bys hd) (getL hl) k) h
theorem go_aload {k : Nat} {x : Value} (hd : Dc bytes pc (.aload k) 2 nx) (hl : L[k]? = some (.val x)) (hr : x.isRef = true) (h : Go C nx L (x :: S) H cells slots) : Go C pc L S H cells slots :=
  go_pure (fun T _ _ _ X t k => by obtain ⟨hd, rfl⟩ := hd; exact XS.aload X.here C.exec rfl (hb C.bys hd) (getL hl) ((isRef_up b x).trans hr) k) h
theorem go_aloadN {k : Fin 4} {x : Value} (hd : Dc bytes pc (.aload_n k) 1 nx) (hl : L[k.val]? = some (.val x)) (hr : x.isRef = true) (h : Go C nx L (x :: S) H cells slots) : Go C pc L S H cells slots :=
  go_pure (fun T _ _ _ X t k => by obtain ⟨hd, rfl⟩ := hd; exact XS.aloadN X.here C.exec rfl (hb C.bys hd) (getL hl) ((isRef_up b x).trans hr) k) h
theorem go_iconst {i : Int} {x : Int32} (hd : Dc bytes pc (.iconst i) 1 nx) (hv : Int32.ofInt i = x) (h : Go C nx L (.int x :: S) H cells slots) : Go C pc L S H cells slots :=
  go_pure (fun T _ _ _ X t k => by obtain ⟨hd, rfl⟩ := hd; subst hv; exact XS.iconst X.here C.exec rfl (hb C.bys hd) k) h
theorem go_bipush {i : Int} {x : Int32} (hd : Dc bytes pc (.bipush i) 2 nx) (hv : (Int8.ofInt i).toInt32 = x) (h : Go C nx L (.int x :: S) H cells slots) : Go C pc L S H cells slots :=
  go_pure (fun T _ _ _ X t k => by obtain ⟨hd, rfl⟩ := hd; subst hv; exact XS.bipush X.here C.exec rfl (hb C.bys hd) k) h
theorem go_sipush {i : Int} {x : Int32} (hd : Dc bytes pc (.sipush i) 3 nx) (hv : (Int16.ofInt i).toInt32 = x) (h : Go C nx L (.int x :: S) H cells slots) : Go C pc L S H cells slots :=
  go_pure (fun T _ _ _ X t k => by obtain ⟨hd, rfl⟩ := hd; subst hv; exact XS.sipush X.here C.exec rfl (hb C.bys hd) k) h
theorem go_lconst {i : Fin 2} {x : Int64} (hd : Dc bytes pc (.lconst i) 1 nx) (hv : Int64.ofNat i = x) (h : Go C nx L (.long x :: S) H cells slots) : Go C pc L S H cells slots :=
  go_pure (fun T _ _ _ X t k => by obtain ⟨hd, rfl⟩ := hd; subst hv; exact XT.lconst X.here C.exec rfl (hb C.bys hd) k) h
theorem go_null (hd : Dc bytes pc .aconst_null 1 nx) (h : Go C nx L (.null :: S) H cells slots) : Go C pc L S H cells slots :=
  go_pure (fun T _ _ _ X t k => by obtain ⟨hd, rfl⟩ := hd; exact XS.aconstNull X.here C.exec rfl (hb C.bys hd) k) h
theorem go_ldc {i : Nat} {x : Int32} (hd : Dc bytes pc (.ldc i) 2 nx) (w : Jvm.Cond.constant y.cls i x ∈ W) (h : Go C nx L (.int x :: S) H cells slots) : Go C pc L S H cells slots :=
  go_pure (fun T _ _ _ X t k => by obtain ⟨hd, rfl⟩ := hd; exact X.ldcInt C.exec C.own (mvT C.warm (C.hw _ w)) (g := frm b m pc L S) rfl (hb C.bys hd) _ k) h
theorem go_ldc2 {i : Nat} {x : Int64} (hd : Dc bytes pc (.ldc2_w i) 3 nx) (w : Jvm.Cond.constantLong y.cls i x ∈ W) (h : Go C nx L (.long x :: S) H cells slots) : Go C pc L S H cells slots :=
  go_pure (fun T _ _ _ X t k => by obtain ⟨hd, rfl⟩ := hd; exact X.ldc2Long C.exec C.own (mvT C.warm (C.hw _ w)) (g := frm b m pc L S) rfl (hb C.bys hd) _ k) h
theorem go_iadd {x : Int32} {z : Int32} (hd : Dc bytes pc .iadd 1 nx) (h : Go C nx L (.int (x + z) :: S) H cells slots) : Go C pc L (.int z :: .int x :: S) H cells slots :=
  go_pure (fun T _ _ _ X t k => by obtain ⟨hd, rfl⟩ := hd; exact XS.iadd X.here C.exec rfl (hb C.bys hd) rfl k) h
theorem go_ladd {x : Int64} {z : Int64} (hd : Dc bytes pc .ladd 1 nx) (h : Go C nx L (.long (x + z) :: S) H cells slots) : Go C pc L (.long z :: .long x :: S) H cells slots :=
  go_pure (fun T _ _ _ X t k => by obtain ⟨hd, rfl⟩ := hd; exact XT.ladd X.here C.exec rfl (hb C.bys hd) rfl k) h
theorem go_isub {x : Int32} {z : Int32} (hd : Dc bytes pc .isub 1 nx) (h : Go C nx L (.int (x - z) :: S) H cells slots) : Go C pc L (.int z :: .int x :: S) H cells slots :=
  go_pure (fun T _ _ _ X t k => by obtain ⟨hd, rfl⟩ := hd; exact XS.isub X.here C.exec rfl (hb C.bys hd) rfl k) h
theorem go_lsub {x : Int64} {z : Int64} (hd : Dc bytes pc .lsub 1 nx) (h : Go C nx L (.long (x - z) :: S) H cells slots) : Go C pc L (.long z :: .long x :: S) H cells slots :=
  go_pure (fun T _ _ _ X t k => by obtain ⟨hd, rfl⟩ := hd; exact XT.lsub X.here C.exec rfl (hb C.bys hd) rfl k) h
theorem go_imul {x : Int32} {z : Int32} (hd : Dc bytes pc .imul 1 nx) (h : Go C nx L (.int (x * z) :: S) H cells slots) : Go C pc L (.int z :: .int x :: S) H cells slots :=
  go_pure (fun T _ _ _ X t k => by obtain ⟨hd, rfl⟩ := hd; exact XS.imul X.here C.exec rfl (hb C.bys hd) rfl k) h
theorem go_lmul {x : Int64} {z : Int64} (hd : Dc bytes pc .lmul 1 nx) (h : Go C nx L (.long (x * z) :: S) H cells slots) : Go C pc L (.long z :: .long x :: S) H cells slots :=
  go_pure (fun T _ _ _ X t k => by obtain ⟨hd, rfl⟩ := hd; exact XT.lmul X.here C.exec rfl (hb C.bys hd) rfl k) h
theorem go_iand {x : Int32} {z : Int32} (hd : Dc bytes pc .iand 1 nx) (h : Go C nx L (.int (x &&& z) :: S) H cells slots) : Go C pc L (.int z :: .int x :: S) H cells slots :=
  go_pure (fun T _ _ _ X t k => by obtain ⟨hd, rfl⟩ := hd; exact XS.iand X.here C.exec rfl (hb C.bys hd) rfl k) h
theorem go_land {x : Int64} {z : Int64} (hd : Dc bytes pc .land 1 nx) (h : Go C nx L (.long (x &&& z) :: S) H cells slots) : Go C pc L (.long z :: .long x :: S) H cells slots :=
  go_pure (fun T _ _ _ X t k => by obtain ⟨hd, rfl⟩ := hd; exact XT.land X.here C.exec rfl (hb C.bys hd) rfl k) h
theorem go_ior {x : Int32} {z : Int32} (hd : Dc bytes pc .ior 1 nx) (h : Go C nx L (.int (x ||| z) :: S) H cells slots) : Go C pc L (.int z :: .int x :: S) H cells slots :=
  go_pure (fun T _ _ _ X t k => by obtain ⟨hd, rfl⟩ := hd; exact XT.ior X.here C.exec rfl (hb C.bys hd) rfl k) h
theorem go_lor {x : Int64} {z : Int64} (hd : Dc bytes pc .lor 1 nx) (h : Go C nx L (.long (x ||| z) :: S) H cells slots) : Go C pc L (.long z :: .long x :: S) H cells slots :=
  go_pure (fun T _ _ _ X t k => by obtain ⟨hd, rfl⟩ := hd; exact XT.lor X.here C.exec rfl (hb C.bys hd) rfl k) h
theorem go_ixor {x : Int32} {z : Int32} (hd : Dc bytes pc .ixor 1 nx) (h : Go C nx L (.int (x ^^^ z) :: S) H cells slots) : Go C pc L (.int z :: .int x :: S) H cells slots :=
  go_pure (fun T _ _ _ X t k => by obtain ⟨hd, rfl⟩ := hd; exact XT.ixor X.here C.exec rfl (hb C.bys hd) rfl k) h
theorem go_lxor {x : Int64} {z : Int64} (hd : Dc bytes pc .lxor 1 nx) (h : Go C nx L (.long (x ^^^ z) :: S) H cells slots) : Go C pc L (.long z :: .long x :: S) H cells slots :=
  go_pure (fun T _ _ _ X t k => by obtain ⟨hd, rfl⟩ := hd; exact XT.lxor X.here C.exec rfl (hb C.bys hd) rfl k) h
theorem go_ishl {x : Int32} {z : Int32} (hd : Dc bytes pc .ishl 1 nx) (h : Go C nx L (.int (x <<< (z &&& 31)) :: S) H cells slots) : Go C pc L (.int z :: .int x :: S) H cells slots :=
  go_pure (fun T _ _ _ X t k => by obtain ⟨hd, rfl⟩ := hd; exact XT.ishl X.here C.exec rfl (hb C.bys hd) rfl k) h
theorem go_ishr {x : Int32} {z : Int32} (hd : Dc bytes pc .ishr 1 nx) (h : Go C nx L (.int (x >>> (z &&& 31)) :: S) H cells slots) : Go C pc L (.int z :: .int x :: S) H cells slots :=
  go_pure (fun T _ _ _ X t k => by obtain ⟨hd, rfl⟩ := hd; exact XT.ishr X.here C.exec rfl (hb C.bys hd) rfl k) h
theorem go_iushr {x : Int32} {z : Int32} (hd : Dc bytes pc .iushr 1 nx) (h : Go C nx L (.int (XT.ushr x z) :: S) H cells slots) : Go C pc L (.int z :: .int x :: S) H cells slots :=
  go_pure (fun T _ _ _ X t k => by obtain ⟨hd, rfl⟩ := hd; exact XT.iushr X.here C.exec rfl (hb C.bys hd) rfl k) h
theorem go_lshl {x : Int64} {z : Int32} (hd : Dc bytes pc .lshl 1 nx) (h : Go C nx L (.long (x <<< (z.toInt64 &&& 63)) :: S) H cells slots) : Go C pc L (.int z :: .long x :: S) H cells slots :=
  go_pure (fun T _ _ _ X t k => by obtain ⟨hd, rfl⟩ := hd; exact XT.lshl X.here C.exec rfl (hb C.bys hd) rfl k) h
theorem go_lshr {x : Int64} {z : Int32} (hd : Dc bytes pc .lshr 1 nx) (h : Go C nx L (.long (x >>> (z.toInt64 &&& 63)) :: S) H cells slots) : Go C pc L (.int z :: .long x :: S) H cells slots :=
  go_pure (fun T _ _ _ X t k => by obtain ⟨hd, rfl⟩ := hd; exact XT.lshr X.here C.exec rfl (hb C.bys hd) rfl k) h
theorem go_lushr {x : Int64} {z : Int32} (hd : Dc bytes pc .lushr 1 nx) (h : Go C nx L (.long (XT.ushrL x z) :: S) H cells slots) : Go C pc L (.int z :: .long x :: S) H cells slots :=
  go_pure (fun T _ _ _ X t k => by obtain ⟨hd, rfl⟩ := hd; exact XT.lushr X.here C.exec rfl (hb C.bys hd) rfl k) h
theorem go_ineg {x : Int32} (hd : Dc bytes pc .ineg 1 nx) (h : Go C nx L (.int (-x) :: S) H cells slots) : Go C pc L (.int x :: S) H cells slots :=
  go_pure (fun T _ _ _ X t k => by obtain ⟨hd, rfl⟩ := hd; exact XS.ineg X.here C.exec rfl (hb C.bys hd) rfl k) h
theorem go_lneg {x : Int64} (hd : Dc bytes pc .lneg 1 nx) (h : Go C nx L (.long (-x) :: S) H cells slots) : Go C pc L (.long x :: S) H cells slots :=
  go_pure (fun T _ _ _ X t k => by obtain ⟨hd, rfl⟩ := hd; exact XT.lneg X.here C.exec rfl (hb C.bys hd) rfl k) h
theorem go_i2l {x : Int32} (hd : Dc bytes pc .i2l 1 nx) (h : Go C nx L (.long (x.toInt64) :: S) H cells slots) : Go C pc L (.int x :: S) H cells slots :=
  go_pure (fun T _ _ _ X t k => by obtain ⟨hd, rfl⟩ := hd; exact XT.i2l X.here C.exec rfl (hb C.bys hd) rfl k) h
theorem go_l2i {x : Int64} (hd : Dc bytes pc .l2i 1 nx) (h : Go C nx L (.int (x.toInt32) :: S) H cells slots) : Go C pc L (.long x :: S) H cells slots :=
  go_pure (fun T _ _ _ X t k => by obtain ⟨hd, rfl⟩ := hd; exact XT.l2i X.here C.exec rfl (hb C.bys hd) rfl k) h
theorem go_i2b {x : Int32} (hd : Dc bytes pc .i2b 1 nx) (h : Go C nx L (.int (x.toInt8.toInt32) :: S) H cells slots) : Go C pc L (.int x :: S) H cells slots :=
  go_pure (fun T _ _ _ X t k => by obtain ⟨hd, rfl⟩ := hd; exact XT.i2b X.here C.exec rfl (hb C.bys hd) rfl k) h
theorem go_i2c {x : Int32} (hd : Dc bytes pc .i2c 1 nx) (h : Go C nx L (.int (x.toUInt32.toUInt16.toUInt32.toInt32) :: S) H cells slots) : Go C pc L (.int x :: S) H cells slots :=
  go_pure (fun T _ _ _ X t k => by obtain ⟨hd, rfl⟩ := hd; exact XT.i2c X.here C.exec rfl (hb C.bys hd) rfl k) h
theorem go_i2s {x : Int32} (hd : Dc bytes pc .i2s 1 nx) (h : Go C nx L (.int (x.toInt16.toInt32) :: S) H cells slots) : Go C pc L (.int x :: S) H cells slots :=
  go_pure (fun T _ _ _ X t k => by obtain ⟨hd, rfl⟩ := hd; exact XT.i2s X.here C.exec rfl (hb C.bys hd) rfl k) h
theorem go_idiv {x z : Int32} (hd : Dc bytes pc .idiv 1 nx) (hz : z ≠ 0) (h : Go C nx L (.int (x / z) :: S) H cells slots) : Go C pc L (.int z :: .int x :: S) H cells slots :=
  go_pure (fun T _ _ _ X t k => by obtain ⟨hd, rfl⟩ := hd; exact XS.idiv X.here C.exec rfl (hb C.bys hd) rfl hz k) h
theorem go_irem {x z : Int32} (hd : Dc bytes pc .irem 1 nx) (hz : z ≠ 0) (h : Go C nx L (.int (x % z) :: S) H cells slots) : Go C pc L (.int z :: .int x :: S) H cells slots :=
  go_pure (fun T _ _ _ X t k => by obtain ⟨hd, rfl⟩ := hd; exact iremM X C.exec rfl (hb C.bys hd) rfl hz k) h
theorem go_dup {v : Value} (hd : Dc bytes pc .dup 1 nx) (hc : v.category = 1) (h : Go C nx L (v :: v :: S) H cells slots) : Go C pc L (v :: S) H cells slots :=
  go_pure (fun T _ _ _ X t k => by obtain ⟨hd, rfl⟩ := hd; exact XS.dup X.here C.exec rfl (hb C.bys hd) rfl ((cat_up b v).trans hc) k) h
theorem go_dupX1 {v w : Value} (hd : Dc bytes pc .dup_x1 1 nx) (hc : v.category = 1) (hc' : w.category = 1) (h : Go C nx L (v :: w :: v :: S) H cells slots) : Go C pc L (v :: w :: S) H cells slots :=
  go_pure (fun T _ _ _ X t k => by obtain ⟨hd, rfl⟩ := hd; exact XT.dupX1 X.here C.exec rfl (hb C.bys hd) rfl ((cat_up b v).trans hc) ((cat_up b w).trans hc') k) h
theorem go_dup2 {v w : Value} (hd : Dc bytes pc .dup2 1 nx) (hc : v.category = 1) (hc' : w.category = 1) (h : Go C nx L (v :: w :: v :: w :: S) H cells slots) : Go C pc L (v :: w :: S) H cells slots :=
  go_pure (fun T _ _ _ X t k => by obtain ⟨hd, rfl⟩ := hd; exact XT.dup2 X.here C.exec rfl (hb C.bys hd) rfl ((cat_up b v).trans hc) ((cat_up b w).trans hc') k) h
theorem go_dup2L {x : Int64} (hd : Dc bytes pc .dup2 1 nx) (h : Go C nx L (.long x :: .long x :: S) H cells slots) : Go C pc L (.long x :: S) H cells slots :=
  go_pure (fun T _ _ _ X t k => by obtain ⟨hd, rfl⟩ := hd; exact XT.dup2L X.here C.exec rfl (hb C.bys hd) rfl k) h
theorem go_pop {v : Value} (hd : Dc bytes pc .pop 1 nx) (hc : v.category = 1) (h : Go C nx L S H cells slots) : Go C pc L (v :: S) H cells slots :=
  go_pure (fun T _ _ _ X t k => by obtain ⟨hd, rfl⟩ := hd; exact XT.pop X.here C.exec rfl (hb C.bys hd) rfl ((cat_up b v).trans hc) k) h
theorem go_goto {o : Int} (hd : Dc bytes pc (.goto o) 3 nx) (ht : (pc : Int) + o = (tg : Nat)) (h : Go C tg L S H cells slots) : Go C pc L S H cells slots :=
  go_pure (fun T _ _ _ X t k => XS.goto X.here C.exec rfl (pc0 := pc) (pc' := tg) rfl (hb C.bys hd.1) (by omega) (by omega) k) h
theorem go_icmp {cd : ClassFile.Cond} {o : Int} {x z : Int32} (hd : Dc bytes pc (.if_icmp cd o) 3 nx) (ht : (pc : Int) + o = (tg : Nat)) (h1 : if_icmp.holds cd x z = true → Go C tg L S H cells slots) (h2 : if_icmp.holds cd x z = false → Go C nx L S H cells slots) : Go C pc L (.int z :: .int x :: S) H cells slots := by
  cases q : if_icmp.holds cd x z
  · exact go_pure (fun T _ _ _ X t k => by obtain ⟨hd, rfl⟩ := hd; exact XS.icmpNo X.here C.exec rfl (hb C.bys hd) rfl q k) (h2 q)
  · exact go_pure (fun T _ _ _ X t k => XS.icmpYes X.here C.exec rfl (pc0 := pc) (pc' := tg) rfl (hb C.bys hd.1) rfl q (by omega) (by omega) k) (h1 q)
theorem go_if {cd : ClassFile.Cond} {o : Int} {x : Int32} (hd : Dc bytes pc (.ifCond cd o) 3 nx) (ht : (pc : Int) + o = (tg : Nat)) (h1 : if_icmp.holds cd x 0 = true → Go C tg L S H cells slots) (h2 : if_icmp.holds cd x 0 = false → Go C nx L S H cells slots) : Go C pc L (.int x :: S) H cells slots := by
  cases q : if_icmp.holds cd x 0
  · exact go_pure (fun T _ _ _ X t k => by obtain ⟨hd, rfl⟩ := hd; exact XS.ifNo X.here C.exec rfl (hb C.bys hd) rfl ((if0 _ _).trans q) k) (h2 q)
  · exact go_pure (fun T _ _ _ X t k => XS.ifYes X.here C.exec rfl (pc0 := pc) (pc' := tg) rfl (hb C.bys hd.1) rfl ((if0 _ _).trans q) (by omega) (by omega) k) (h1 q)
theorem h_eq {x z : Int32} {B : Bool} (q : if_icmp.holds .eq x z = B) : B = true ↔ x = z := by subst q; simp [if_icmp.holds]
theorem h_ne {x z : Int32} {B : Bool} (q : if_icmp.holds .ne x z = B) : B = true ↔ ¬ x = z := by subst q; simp [if_icmp.holds]
theorem h_lt {x z : Int32} {B : Bool} (q : if_icmp.holds .lt x z = B) : B = true ↔ x.toInt < z.toInt := by subst q; simp [if_icmp.holds, Int32.lt_iff_toInt_lt]
theorem h_ge {x z : Int32} {B : Bool} (q : if_icmp.holds .ge x z = B) : B = true ↔ z.toInt ≤ x.toInt := by subst q; simp [if_icmp.holds, Int32.le_iff_toInt_le]
theorem h_gt {x z : Int32} {B : Bool} (q : if_icmp.holds .gt x z = B) : B = true ↔ z.toInt < x.toInt := by subst q; simp [if_icmp.holds, Int32.lt_iff_toInt_lt]
theorem h_le {x z : Int32} {B : Bool} (q : if_icmp.holds .le x z = B) : B = true ↔ x.toInt ≤ z.toInt := by subst q; simp [if_icmp.holds, Int32.le_iff_toInt_le]
theorem go_iceq {o : Int} {x z : Int32} (hd : Dc bytes pc (.if_icmp .eq o) 3 nx) (ht : (pc : Int) + o = (tg : Nat)) (h1 : x = z → Go C tg L S H cells slots) (h2 : ¬ x = z → Go C nx L S H cells slots) : Go C pc L (.int z :: .int x :: S) H cells slots :=
  go_icmp hd ht (fun q => h1 ((h_eq q).mp rfl)) (fun q => h2 (fun r => Bool.noConfusion ((h_eq q).mpr r)))
theorem go_iceqY {o : Int} {x z : Int32} (hd : Dc bytes pc (.if_icmp .eq o) 3 nx) (ht : (pc : Int) + o = (tg : Nat)) (hc : x = z) (h : Go C tg L S H cells slots) : Go C pc L (.int z :: .int x :: S) H cells slots :=
  go_iceq hd ht (fun _ => h) (fun q => absurd hc (by first | exact q | exact not_not_intro q | omega))
theorem go_iceqN {o : Int} {x z : Int32} (hd : Dc bytes pc (.if_icmp .eq o) 3 nx) (ht : (pc : Int) + o = (tg : Nat)) (hc : ¬ x = z) (h : Go C nx L S H cells slots) : Go C pc L (.int z :: .int x :: S) H cells slots :=
  go_iceq hd ht (fun q => absurd hc (by first | exact q | exact not_not_intro q | omega)) (fun _ => h)
theorem go_ifeq {o : Int} {x : Int32} (hd : Dc bytes pc (.ifCond .eq o) 3 nx) (ht : (pc : Int) + o = (tg : Nat)) (h1 : x = 0 → Go C tg L S H cells slots) (h2 : ¬ x = 0 → Go C nx L S H cells slots) : Go C pc L (.int x :: S) H cells slots :=
  go_if hd ht (fun q => h1 ((h_eq q).mp rfl)) (fun q => h2 (fun r => Bool.noConfusion ((h_eq q).mpr r)))
theorem go_ifeqY {o : Int} {x : Int32} (hd : Dc bytes pc (.ifCond .eq o) 3 nx) (ht : (pc : Int) + o = (tg : Nat)) (hc : x = 0) (h : Go C tg L S H cells slots) : Go C pc L (.int x :: S) H cells slots :=
  go_ifeq hd ht (fun _ => h) (fun q => absurd hc (by first | exact q | exact not_not_intro q | omega))
theorem go_ifeqN {o : Int} {x : Int32} (hd : Dc bytes pc (.ifCond .eq o) 3 nx) (ht : (pc : Int) + o = (tg : Nat)) (hc : ¬ x = 0) (h : Go C nx L S H cells slots) : Go C pc L (.int x :: S) H cells slots :=
  go_ifeq hd ht (fun q => absurd hc (by first | exact q | exact not_not_intro q | omega)) (fun _ => h)
theorem go_icne {o : Int} {x z : Int32} (hd : Dc bytes pc (.if_icmp .ne o) 3 nx) (ht : (pc : Int) + o = (tg : Nat)) (h1 : ¬ x = z → Go C tg L S H cells slots) (h2 : x = z → Go C nx L S H cells slots) : Go C pc L (.int z :: .int x :: S) H cells slots :=
  go_icmp hd ht (fun q => h1 ((h_ne q).mp rfl)) (fun q => h2 (Decidable.not_not.mp fun r => Bool.noConfusion ((h_ne q).mpr r)))
theorem go_icneY {o : Int} {x z : Int32} (hd : Dc bytes pc (.if_icmp .ne o) 3 nx) (ht : (pc : Int) + o = (tg : Nat)) (hc : ¬ x = z) (h : Go C tg L S H cells slots) : Go C pc L (.int z :: .int x :: S) H cells slots :=
  go_icne hd ht (fun _ => h) (fun q => absurd hc (by first | exact q | exact not_not_intro q | omega))
theorem go_icneN {o : Int} {x z : Int32} (hd : Dc bytes pc (.if_icmp .ne o) 3 nx) (ht : (pc : Int) + o = (tg : Nat)) (hc : x = z) (h : Go C nx L S H cells slots) : Go C pc L (.int z :: .int x :: S) H cells slots :=
  go_icne hd ht (fun q => absurd hc (by first | exact q | exact not_not_intro q | omega)) (fun _ => h)
theorem go_ifne {o : Int} {x : Int32} (hd : Dc bytes pc (.ifCond .ne o) 3 nx) (ht : (pc : Int) + o = (tg : Nat)) (h1 : ¬ x = 0 → Go C tg L S H cells slots) (h2 : x = 0 → Go C nx L S H cells slots) : Go C pc L (.int x :: S) H cells slots :=
  go_if hd ht (fun q => h1 ((h_ne q).mp rfl)) (fun q => h2 (Decidable.not_not.mp fun r => Bool.noConfusion ((h_ne q).mpr r)))
theorem go_ifneY {o : Int} {x : Int32} (hd : Dc bytes pc (.ifCond .ne o) 3 nx) (ht : (pc : Int) + o = (tg : Nat)) (hc : ¬ x = 0) (h : Go C tg L S H cells slots) : Go C pc L (.int x :: S) H cells slots :=
  go_ifne hd ht (fun _ => h) (fun q => absurd hc (by first | exact q | exact not_not_intro q | omega))
theorem go_ifneN {o : Int} {x : Int32} (hd : Dc bytes pc (.ifCond .ne o) 3 nx) (ht : (pc : Int) + o = (tg : Nat)) (hc : x = 0) (h : Go C nx L S H cells slots) : Go C pc L (.int x :: S) H cells slots :=
  go_ifne hd ht (fun q => absurd hc (by first | exact q | exact not_not_intro q | omega)) (fun _ => h)
theorem go_iclt {o : Int} {x z : Int32} (hd : Dc bytes pc (.if_icmp .lt o) 3 nx) (ht : (pc : Int) + o = (tg : Nat)) (h1 : x.toInt < z.toInt → Go C tg L S H cells slots) (h2 : z.toInt ≤ x.toInt → Go C nx L S H cells slots) : Go C pc L (.int z :: .int x :: S) H cells slots :=
  go_icmp hd ht (fun q => h1 ((h_lt q).mp rfl)) (fun q => h2 ((by have := mt (h_lt q).mpr (by simp); omega)))
theorem go_icltY {o : Int} {x z : Int32} (hd : Dc bytes pc (.if_icmp .lt o) 3 nx) (ht : (pc : Int) + o = (tg : Nat)) (hc : x.toInt < z.toInt) (h : Go C tg L S H cells slots) : Go C pc L (.int z :: .int x :: S) H cells slots :=
  go_iclt hd ht (fun _ => h) (fun q => absurd hc (by first | exact q | exact not_not_intro q | omega))
theorem go_icltN {o : Int} {x z : Int32} (hd : Dc bytes pc (.if_icmp .lt o) 3 nx) (ht : (pc : Int) + o = (tg : Nat)) (hc : z.toInt ≤ x.toInt) (h : Go C nx L S H cells slots) : Go C pc L (.int z :: .int x :: S) H cells slots :=
  go_iclt hd ht (fun q => absurd hc (by first | exact q | exact not_not_intro q | omega)) (fun _ => h)
theorem go_iflt {o : Int} {x : Int32} (hd : Dc bytes pc (.ifCond .lt o) 3 nx) (ht : (pc : Int) + o = (tg : Nat)) (h1 : x.toInt < 0 → Go C tg L S H cells slots) (h2 : 0 ≤ x.toInt → Go C nx L S H cells slots) : Go C pc L (.int x :: S) H cells slots :=
  go_if hd ht (fun q => h1 ((by have := (h_lt q).mp rfl; simpa using this))) (fun q => h2 ((by have := mt (h_lt q).mpr (by simp); simpa using this)))
theorem go_ifltY {o : Int} {x : Int32} (hd : Dc bytes pc (.ifCond .lt o) 3 nx) (ht : (pc : Int) + o = (tg : Nat)) (hc : x.toInt < 0) (h : Go C tg L S H cells slots) : Go C pc L (.int x :: S) H cells slots :=
  go_iflt hd ht (fun _ => h) (fun q => absurd hc (by first | exact q | exact not_not_intro q | omega))
theorem go_ifltN {o : Int} {x : Int32} (hd : Dc bytes pc (.ifCond .lt o) 3 nx) (ht : (pc : Int) + o = (tg : Nat)) (hc : 0 ≤ x.toInt) (h : Go C nx L S H cells slots) : Go C pc L (.int x :: S) H cells slots :=
  go_iflt hd ht (fun q => absurd hc (by first | exact q | exact not_not_intro q | omega)) (fun _ => h)
theorem go_icge {o : Int} {x z : Int32} (hd : Dc bytes pc (.if_icmp .ge o) 3 nx) (ht : (pc : Int) + o = (tg : Nat)) (h1 : z.toInt ≤ x.toInt → Go C tg L S H cells slots) (h2 : x.toInt < z.toInt → Go C nx L S H cells slots) : Go C pc L (.int z :: .int x :: S) H cells slots :=
  go_icmp hd ht (fun q => h1 ((h_ge q).mp rfl)) (fun q => h2 ((by have := mt (h_ge q).mpr (by simp); omega)))
theorem go_icgeY {o : Int} {x z : Int32} (hd : Dc bytes pc (.if_icmp .ge o) 3 nx) (ht : (pc : Int) + o = (tg : Nat)) (hc : z.toInt ≤ x.toInt) (h : Go C tg L S H cells slots) : Go C pc L (.int z :: .int x :: S) H cells slots :=
  go_icge hd ht (fun _ => h) (fun q => absurd hc (by first | exact q | exact not_not_intro q | omega))
theorem go_icgeN {o : Int} {x z : Int32} (hd : Dc bytes pc (.if_icmp .ge o) 3 nx) (ht : (pc : Int) + o = (tg : Nat)) (hc : x.toInt < z.toInt) (h : Go C nx L S H cells slots) : Go C pc L (.int z :: .int x :: S) H cells slots :=
  go_icge hd ht (fun q => absurd hc (by first | exact q | exact not_not_intro q | omega)) (fun _ => h)
theorem go_ifge {o : Int} {x : Int32} (hd : Dc bytes pc (.ifCond .ge o) 3 nx) (ht : (pc : Int) + o = (tg : Nat)) (h1 : 0 ≤ x.toInt → Go C tg L S H cells slots) (h2 : x.toInt < 0 → Go C nx L S H cells slots) : Go C pc L (.int x :: S) H cells slots :=
  go_if hd ht (fun q => h1 ((by have := (h_ge q).mp rfl; simpa using this))) (fun q => h2 ((by have := mt (h_ge q).mpr (by simp); simpa using this)))
theorem go_ifgeY {o : Int} {x : Int32} (hd : Dc bytes pc (.ifCond .ge o) 3 nx) (ht : (pc : Int) + o = (tg : Nat)) (hc : 0 ≤ x.toInt) (h : Go C tg L S H cells slots) : Go C pc L (.int x :: S) H cells slots :=
  go_ifge hd ht (fun _ => h) (fun q => absurd hc (by first | exact q | exact not_not_intro q | omega))
theorem go_ifgeN {o : Int} {x : Int32} (hd : Dc bytes pc (.ifCond .ge o) 3 nx) (ht : (pc : Int) + o = (tg : Nat)) (hc : x.toInt < 0) (h : Go C nx L S H cells slots) : Go C pc L (.int x :: S) H cells slots :=
  go_ifge hd ht (fun q => absurd hc (by first | exact q | exact not_not_intro q | omega)) (fun _ => h)
theorem go_icgt {o : Int} {x z : Int32} (hd : Dc bytes pc (.if_icmp .gt o) 3 nx) (ht : (pc : Int) + o = (tg : Nat)) (h1 : z.toInt < x.toInt → Go C tg L S H cells slots) (h2 : x.toInt ≤ z.toInt → Go C nx L S H cells slots) : Go C pc L (.int z :: .int x :: S) H cells slots :=
  go_icmp hd ht (fun q => h1 ((h_gt q).mp rfl)) (fun q => h2 ((by have := mt (h_gt q).mpr (by simp); omega)))
theorem go_icgtY {o : Int} {x z : Int32} (hd : Dc bytes pc (.if_icmp .gt o) 3 nx) (ht : (pc : Int) + o = (tg : Nat)) (hc : z.toInt < x.toInt) (h : Go C tg L S H cells slots) : Go C pc L (.int z :: .int x :: S) H cells slots :=
  go_icgt hd ht (fun _ => h) (fun q => absurd hc (by first | exact q | exact not_not_intro q | omega))
theorem go_icgtN {o : Int} {x z : Int32} (hd : Dc bytes pc (.if_icmp .gt o) 3 nx) (ht : (pc : Int) + o = (tg : Nat)) (hc : x.toInt ≤ z.toInt) (h : Go C nx L S H cells slots) : Go C pc L (.int z :: .int x :: S) H cells slots :=
  go_icgt hd ht (fun q => absurd hc (by first | exact q | exact not_not_intro q | omega)) (fun _ => h)
theorem go_ifgt {o : Int} {x : Int32} (hd : Dc bytes pc (.ifCond .gt o) 3 nx) (ht : (pc : Int) + o = (tg : Nat)) (h1 : 0 < x.toInt → Go C tg L S H cells slots) (h2 : x.toInt ≤ 0 → Go C nx L S H cells slots) : Go C pc L (.int x :: S) H cells slots :=
  go_if hd ht (fun q => h1 ((by have := (h_gt q).mp rfl; simpa using this))) (fun q => h2 ((by have := mt (h_gt q).mpr (by simp); simpa using this)))
theorem go_ifgtY {o : Int} {x : Int32} (hd : Dc bytes pc (.ifCond .gt o) 3 nx) (ht : (pc : Int) + o = (tg : Nat)) (hc : 0 < x.toInt) (h : Go C tg L S H cells slots) : Go C pc L (.int x :: S) H cells slots :=
  go_ifgt hd ht (fun _ => h) (fun q => absurd hc (by first | exact q | exact not_not_intro q | omega))
theorem go_ifgtN {o : Int} {x : Int32} (hd : Dc bytes pc (.ifCond .gt o) 3 nx) (ht : (pc : Int) + o = (tg : Nat)) (hc : x.toInt ≤ 0) (h : Go C nx L S H cells slots) : Go C pc L (.int x :: S) H cells slots :=
  go_ifgt hd ht (fun q => absurd hc (by first | exact q | exact not_not_intro q | omega)) (fun _ => h)
theorem go_icle {o : Int} {x z : Int32} (hd : Dc bytes pc (.if_icmp .le o) 3 nx) (ht : (pc : Int) + o = (tg : Nat)) (h1 : x.toInt ≤ z.toInt → Go C tg L S H cells slots) (h2 : z.toInt < x.toInt → Go C nx L S H cells slots) : Go C pc L (.int z :: .int x :: S) H cells slots :=
  go_icmp hd ht (fun q => h1 ((h_le q).mp rfl)) (fun q => h2 ((by have := mt (h_le q).mpr (by simp); omega)))
theorem go_icleY {o : Int} {x z : Int32} (hd : Dc bytes pc (.if_icmp .le o) 3 nx) (ht : (pc : Int) + o = (tg : Nat)) (hc : x.toInt ≤ z.toInt) (h : Go C tg L S H cells slots) : Go C pc L (.int z :: .int x :: S) H cells slots :=
  go_icle hd ht (fun _ => h) (fun q => absurd hc (by first | exact q | exact not_not_intro q | omega))
theorem go_icleN {o : Int} {x z : Int32} (hd : Dc bytes pc (.if_icmp .le o) 3 nx) (ht : (pc : Int) + o = (tg : Nat)) (hc : z.toInt < x.toInt) (h : Go C nx L S H cells slots) : Go C pc L (.int z :: .int x :: S) H cells slots :=
  go_icle hd ht (fun q => absurd hc (by first | exact q | exact not_not_intro q | omega)) (fun _ => h)
theorem go_ifle {o : Int} {x : Int32} (hd : Dc bytes pc (.ifCond .le o) 3 nx) (ht : (pc : Int) + o = (tg : Nat)) (h1 : x.toInt ≤ 0 → Go C tg L S H cells slots) (h2 : 0 < x.toInt → Go C nx L S H cells slots) : Go C pc L (.int x :: S) H cells slots :=
  go_if hd ht (fun q => h1 ((by have := (h_le q).mp rfl; simpa using this))) (fun q => h2 ((by have := mt (h_le q).mpr (by simp); simpa using this)))
theorem go_ifleY {o : Int} {x : Int32} (hd : Dc bytes pc (.ifCond .le o) 3 nx) (ht : (pc : Int) + o = (tg : Nat)) (hc : x.toInt ≤ 0) (h : Go C tg L S H cells slots) : Go C pc L (.int x :: S) H cells slots :=
  go_ifle hd ht (fun _ => h) (fun q => absurd hc (by first | exact q | exact not_not_intro q | omega))
theorem go_ifleN {o : Int} {x : Int32} (hd : Dc bytes pc (.ifCond .le o) 3 nx) (ht : (pc : Int) + o = (tg : Nat)) (hc : 0 < x.toInt) (h : Go C nx L S H cells slots) : Go C pc L (.int x :: S) H cells slots :=
  go_ifle hd ht (fun q => absurd hc (by first | exact q | exact not_not_intro q | omega)) (fun _ => h)
theorem lcm_eq (x z : Int64) : XT.cmpL x z = 0 ↔ x = z := by
  unfold XT.cmpL
  by_cases h1 : z < x
  · rw [if_pos h1]; constructor
    · intro h; cases h
    · rintro rfl; exact (Int64.lt_irrefl h1).elim
  · rw [if_neg h1]; by_cases h2 : x = z
    · rw [if_pos h2]; simp [h2]
    · rw [if_neg h2]; constructor
      · intro h; cases h
      · intro h; exact absurd h h2
theorem lcm_lt (x z : Int64) : (XT.cmpL x z).toInt < 0 ↔ x.toInt < z.toInt := by
  unfold XT.cmpL
  by_cases h1 : z < x
  · rw [if_pos h1]; rw [Int64.lt_iff_toInt_lt] at h1; constructor
    · intro h; exact absurd h (by decide)
    · intro h; omega
  · rw [if_neg h1]; rw [Int64.lt_iff_toInt_lt] at h1; by_cases h2 : x = z
    · rw [if_pos h2]; subst h2; constructor
      · intro h; exact absurd h (by decide)
      · intro h; omega
    · rw [if_neg h2]; have : x.toInt ≠ z.toInt := fun q => h2 (Int64.toInt_inj.mp q)
      constructor
      · intro h; omega
      · intro h; decide
theorem lcm_gt (x z : Int64) : 0 < (XT.cmpL x z).toInt ↔ z.toInt < x.toInt := by
  unfold XT.cmpL
  by_cases h1 : z < x
  · rw [if_pos h1]; rw [Int64.lt_iff_toInt_lt] at h1; constructor
    · intro h; omega
    · intro h; decide
  · rw [if_neg h1]; rw [Int64.lt_iff_toInt_lt] at h1; by_cases h2 : x = z
    · rw [if_pos h2]; subst h2; constructor
      · intro h; exact absurd h (by decide)
      · intro h; omega
    · rw [if_neg h2]; constructor
      · intro h; exact absurd h (by decide)
      · intro h; omega
theorem go_lcmp {x z : Int64} (hd : Dc bytes pc .lcmp 1 nx) (h : Go C nx L (.int (XT.cmpL x z) :: S) H cells slots) : Go C pc L (.long z :: .long x :: S) H cells slots :=
  go_pure (fun T _ _ _ X t k => by obtain ⟨hd, rfl⟩ := hd; exact XT.lcmp X.here C.exec rfl (hb C.bys hd) rfl k) h
theorem go_lceq {o : Int} {x z : Int64} {p1 : Nat} (hd1 : Dc bytes pc .lcmp 1 p1) (hd : Dc bytes p1 (.ifCond .eq o) 3 nx) (ht : (p1 : Int) + o = (tg : Nat)) (h1 : x = z → Go C tg L S H cells slots) (h2 : ¬ x = z → Go C nx L S H cells slots) : Go C pc L (.long z :: .long x :: S) H cells slots :=
  go_lcmp hd1 (go_ifeq hd ht (fun q => h1 ((lcm_eq x z).mp q)) (fun q => h2 (fun r => q ((lcm_eq x z).mpr r))))
theorem go_lcne {o : Int} {x z : Int64} {p1 : Nat} (hd1 : Dc bytes pc .lcmp 1 p1) (hd : Dc bytes p1 (.ifCond .ne o) 3 nx) (ht : (p1 : Int) + o = (tg : Nat)) (h1 : ¬ x = z → Go C tg L S H cells slots) (h2 : x = z → Go C nx L S H cells slots) : Go C pc L (.long z :: .long x :: S) H cells slots :=
  go_lcmp hd1 (go_ifne hd ht (fun q => h1 (fun r => q ((lcm_eq x z).mpr r))) (fun q => h2 ((lcm_eq x z).mp q)))
theorem go_lclt {o : Int} {x z : Int64} {p1 : Nat} (hd1 : Dc bytes pc .lcmp 1 p1) (hd : Dc bytes p1 (.ifCond .lt o) 3 nx) (ht : (p1 : Int) + o = (tg : Nat)) (h1 : x.toInt < z.toInt → Go C tg L S H cells slots) (h2 : z.toInt ≤ x.toInt → Go C nx L S H cells slots) : Go C pc L (.long z :: .long x :: S) H cells slots :=
  go_lcmp hd1 (go_iflt hd ht (fun q => h1 (by have := lcm_lt x z; omega)) (fun q => h2 (by have := lcm_lt x z; omega)))
theorem go_lcge {o : Int} {x z : Int64} {p1 : Nat} (hd1 : Dc bytes pc .lcmp 1 p1) (hd : Dc bytes p1 (.ifCond .ge o) 3 nx) (ht : (p1 : Int) + o = (tg : Nat)) (h1 : z.toInt ≤ x.toInt → Go C tg L S H cells slots) (h2 : x.toInt < z.toInt → Go C nx L S H cells slots) : Go C pc L (.long z :: .long x :: S) H cells slots :=
  go_lcmp hd1 (go_ifge hd ht (fun q => h1 (by have := lcm_lt x z; omega)) (fun q => h2 (by have := lcm_lt x z; omega)))
theorem go_lcgt {o : Int} {x z : Int64} {p1 : Nat} (hd1 : Dc bytes pc .lcmp 1 p1) (hd : Dc bytes p1 (.ifCond .gt o) 3 nx) (ht : (p1 : Int) + o = (tg : Nat)) (h1 : z.toInt < x.toInt → Go C tg L S H cells slots) (h2 : x.toInt ≤ z.toInt → Go C nx L S H cells slots) : Go C pc L (.long z :: .long x :: S) H cells slots :=
  go_lcmp hd1 (go_ifgt hd ht (fun q => h1 (by have := lcm_gt x z; omega)) (fun q => h2 (by have := lcm_gt x z; omega)))
theorem go_lcle {o : Int} {x z : Int64} {p1 : Nat} (hd1 : Dc bytes pc .lcmp 1 p1) (hd : Dc bytes p1 (.ifCond .le o) 3 nx) (ht : (p1 : Int) + o = (tg : Nat)) (h1 : x.toInt ≤ z.toInt → Go C tg L S H cells slots) (h2 : z.toInt < x.toInt → Go C nx L S H cells slots) : Go C pc L (.long z :: .long x :: S) H cells slots :=
  go_lcmp hd1 (go_ifle hd ht (fun q => h1 (by have := lcm_gt x z; omega)) (fun q => h2 (by have := lcm_gt x z; omega)))
theorem go_acmp {cd : ACond} {o : Int} {v w : Value} {same : Bool} (hd : Dc bytes pc (.if_acmp cd o) 3 nx) (hv : v.isRef = true) (hw : w.isRef = true) (hs : decide (v = w) = same) (ht : (pc : Int) + o = (tg : Nat)) (h : Go C (if acV cd same = true then tg else nx) L S H cells slots) : Go C pc L (w :: v :: S) H cells slots :=
  go_pure (fun T _ _ _ X t k => by
    obtain ⟨hd, rfl⟩ := hd
    refine Jvm.RoadKit.acmp (g := frm b m pc L (w :: v :: S)) X C.exec rfl ((isRef_up b v).trans hv) ((isRef_up b w).trans hw) (pc0 := pc) (same := same) rfl (hb C.bys hd) rfl ?_ (by omega) (pc' := if acV cd same = true then tg else pc + 3) ?_ k
    · rw [← hs]
      have : upV b v = upV b w ↔ v = w := by
        constructor
        · intro q; cases v <;> cases w <;> simp_all [upV, Value.isRef]
        · intro q; rw [q]
      simp [this]
    · congr 1; omega) h
theorem go_ifnull_null {o : Int} (hd : Dc bytes pc (.ifnull o) 3 nx) (ht : (pc : Int) + o = (tg : Nat)) (h : Go C tg L S H cells slots) : Go C pc L (.null :: S) H cells slots :=
  go_pure (fun T _ _ _ X t k => XS.ifnullYes X.here C.exec rfl (pc0 := pc) (pc' := tg) rfl (hb C.bys hd.1) rfl (by omega) (by omega) k) h
theorem go_ifnull_ref {o : Int} {a : Nat} (hd : Dc bytes pc (.ifnull o) 3 nx) (h : Go C nx L S H cells slots) : Go C pc L (.ref a :: S) H cells slots :=
  go_pure (fun T _ _ _ X t k => by obtain ⟨hd, rfl⟩ := hd; exact XS.ifnullNo X.here C.exec rfl (hb C.bys hd) rfl k) h
theorem go_ifnonnull_ref {o : Int} {a : Nat} (hd : Dc bytes pc (.ifnonnull o) 3 nx) (ht : (pc : Int) + o = (tg : Nat)) (h : Go C tg L S H cells slots) : Go C pc L (.ref a :: S) H cells slots :=
  go_pure (fun T _ _ _ X t k => XT.ifnonnullYes X.here C.exec rfl (pc0 := pc) (pc' := tg) rfl (hb C.bys hd.1) rfl (by omega) (by omega) k) h
def oneS : Slot → Bool
  | .unset => true
  | .val v => v.category == 1
  | .second => false
def notL : Slot → Bool
  | .unset => true
  | .val v => v.category == 1
  | .second => true
theorem oneS_up {o : Slot} (h : oneS o = true) : upS b o = .unset ∨ ∃ w, upS b o = .val w ∧ w.category = 1 := by
  cases o with
  | unset => exact Or.inl rfl
  | second => cases h
  | val v => exact Or.inr ⟨_, rfl, (cat_up b v).trans (by simpa [oneS] using h)⟩
theorem set_up (k : Nat) (v : Value) : (L.map (upS b)).toArray.setIfInBounds k (.val (upV b v)) = ((L.set k (.val v)).map (upS b)).toArray := by
  simp [List.map_set, upS]
theorem sto1 {k : Nat} {o : Slot} {v : Value} (hk : L[k]? = some o) (ho : oneS o = true) (hv : v.category = 1) : storeLocals (L.map (upS b)).toArray k (upV b v) = some ((L.set k (.val v)).map (upS b)).toArray := by
  rw [XS.store1 (getL hk) (oneS_up ho) ((cat_up b v).trans hv), set_up]
theorem sto2 {k : Nat} {o o' : Slot} {x : Int64} (hk : L[k]? = some o) (hk' : L[k + 1]? = some o') (ho : oneS o = true ∨ ∃ z, o = .val (.long z)) (ho' : notL o' = true) : storeLocals (L.map (upS b)).toArray k (.long x) = some (((L.set k (.val (.long x))).set (k + 1) .second).map (upS b)).toArray := by
  obtain ⟨A, hA⟩ : ∃ A, A = (L.map (upS b)).toArray := ⟨_, rfl⟩
  have e0 := getL (b := b) hk
  have e1 := getL (b := b) hk'
  have fin : ((L.map (upS b)).toArray.setIfInBounds k (.val (.long x))).setIfInBounds (k + 1) .second = (((L.set k (.val (.long x))).set (k + 1) .second).map (upS b)).toArray := by
    simp [List.map_set, upS, upV]
  rw [← fin]
  rw [← hA] at e0 e1 ⊢
  clear hA fin
  have i0 : k < A.size := (Array.getElem?_eq_some_iff.mp e0).1
  have i1 : k + 1 < A.size := (Array.getElem?_eq_some_iff.mp e1).1
  have s1 : ∀ B : Array Slot, B.size = A.size → setAt B (k + 1) .second = some (B.setIfInBounds (k + 1) .second) := fun B hB => by simp [setAt, hB, i1]
  have self : ∀ (B : Array Slot) (u : Slot), B.size = A.size → B[k + 1]? = some u → (∀ w, u = .val w → w.category ≠ 2) → storeSelf B k (.long x) = some ((B.setIfInBounds k (.val (.long x))).setIfInBounds (k + 1) .second) := by
    intro B u hB hu hc
    have e2 : (B.setIfInBounds k (.val (.long x)))[k + 1]? = some u := by
      rw [Array.getElem?_setIfInBounds_ne (by omega)]; exact hu
    have e3 : setAt B k (.val (.long x)) = some (B.setIfInBounds k (.val (.long x))) := by simp [setAt, hB, i0]
    have e4 := s1 (B.setIfInBounds k (.val (.long x))) (by simp [hB])
    unfold storeSelf
    rw [e3]
    simp only [Option.bind_eq_bind, Option.bind_some, Value.category, if_true, e2]
    cases u with
    | unset => exact e4
    | second => exact e4
    | val w =>
      have := hc w rfl
      simp only [Value.category] at this
      simp only [this, if_false]
      exact e4
  have n1 : ∀ w, upS b o' = .val w → w.category ≠ 2 := by
    intro w hw
    cases o' with
    | unset => cases hw
    | second => cases hw
    | val v => cases hw; rw [cat_up]; intro q; simp [notL, q] at ho'
  rcases ho with ho | ⟨z, rfl⟩
  · have a1 := oneS_up (b := b) ho
    have step : storeLocals A k (.long x) = storeSelf A k (.long x) := by
      rcases a1 with a1 | ⟨w, a1, a2⟩
      · simp [storeLocals, e0, a1]
      · simp [storeLocals, e0, a1, a2]
    rw [step]
    exact self A _ rfl e1 n1
  · have step : storeLocals A k (.long x) = storeSelf (A.setIfInBounds (k + 1) .unset) k (.long x) := by
      have e3 : setAt A (k + 1) .unset = some (A.setIfInBounds (k + 1) .unset) := by simp [setAt, i1]
      unfold storeLocals
      rw [e0]
      simp only [upS, upV, Option.bind_eq_bind, Option.bind_some, Value.category, if_true, e3]
    rw [step, self (A.setIfInBounds (k + 1) .unset) .unset (by simp) (by simp [i1]) (fun w hw => by cases hw)]
    congr 1
    apply Array.ext_getElem?
    intro j
    simp only [Array.getElem?_setIfInBounds]
    by_cases q : k + 1 = j
    · subst q; simp
    · simp [q]
theorem go_istore {k : Nat} {o : Slot} {x : Int32} (hd : Dc bytes pc (.istore k) 2 nx) (hk : L[k]? = some o) (ho : oneS o = true) (h : Go C nx (L.set k (.val (.int x))) S H cells slots) : Go C pc L (.int x :: S) H cells slots :=
  go_pure (fun T _ _ _ X t r => by obtain ⟨hd, rfl⟩ := hd; exact XS.istore X.here C.exec rfl (hb C.bys hd) rfl (sto1 (v := .int x) hk ho rfl) r) h
theorem go_istoreN {k : Fin 4} {o : Slot} {x : Int32} (hd : Dc bytes pc (.istore_n k) 1 nx) (hk : L[k.val]? = some o) (ho : oneS o = true) (h : Go C nx (L.set k.val (.val (.int x))) S H cells slots) : Go C pc L (.int x :: S) H cells slots :=
  go_pure (fun T _ _ _ X t r => by obtain ⟨hd, rfl⟩ := hd; exact XS.istoreN X.here C.exec rfl (hb C.bys hd) rfl (sto1 (v := .int x) hk ho rfl) r) h
theorem cat_ref {v : Value} (h : v.isRef = true) : v.category = 1 := by cases v <;> first | rfl | cases h
theorem go_astore {k : Nat} {o : Slot} {v : Value} (hd : Dc bytes pc (.astore k) 2 nx) (hk : L[k]? = some o) (ho : oneS o = true) (hv : v.isRef = true) (h : Go C nx (L.set k (.val v)) S H cells slots) : Go C pc L (v :: S) H cells slots :=
  go_pure (fun T _ _ _ X t r => by obtain ⟨hd, rfl⟩ := hd; exact XS.astore X.here C.exec rfl (hb C.bys hd) rfl ((isRef_up b v).trans hv) (sto1 (v := v) hk ho (cat_ref hv)) r) h
theorem go_astoreN {k : Fin 4} {o : Slot} {v : Value} (hd : Dc bytes pc (.astore_n k) 1 nx) (hk : L[k.val]? = some o) (ho : oneS o = true) (hv : v.isRef = true) (h : Go C nx (L.set k.val (.val v)) S H cells slots) : Go C pc L (v :: S) H cells slots :=
  go_pure (fun T _ _ _ X t r => by obtain ⟨hd, rfl⟩ := hd; exact XS.astoreN X.here C.exec rfl (hb C.bys hd) rfl ((isRef_up b v).trans hv) (sto1 (v := v) hk ho (cat_ref hv)) r) h
theorem go_lstore {k : Nat} {o o' : Slot} {x : Int64} (hd : Dc bytes pc (.lstore k) 2 nx) (hk : L[k]? = some o) (hk' : L[k + 1]? = some o') (ho : oneS o = true ∨ ∃ z, o = .val (.long z)) (ho' : notL o' = true) (h : Go C nx ((L.set k (.val (.long x))).set (k + 1) .second) S H cells slots) : Go C pc L (.long x :: S) H cells slots :=
  go_pure (fun T _ _ _ X t r => by obtain ⟨hd, rfl⟩ := hd; exact XT.lstore X.here C.exec rfl (hb C.bys hd) rfl (sto2 hk hk' ho ho') r) h
theorem go_lstoreN {k : Fin 4} {o o' : Slot} {x : Int64} (hd : Dc bytes pc (.lstore_n k) 1 nx) (hk : L[k.val]? = some o) (hk' : L[k.val + 1]? = some o') (ho : oneS o = true ∨ ∃ z, o = .val (.long z)) (ho' : notL o' = true) (h : Go C nx ((L.set k.val (.val (.long x))).set (k.val + 1) .second) S H cells slots) : Go C pc L (.long x :: S) H cells slots :=
  go_pure (fun T _ _ _ X t r => by obtain ⟨hd, rfl⟩ := hd; exact XT.lstoreN X.here C.exec rfl (hb C.bys hd) rfl (sto2 hk hk' ho ho') r) h
theorem go_iinc {k : Nat} {i : Int} {x z : Int32} (hd : Dc bytes pc (.iinc k i) 3 nx) (hk : L[k]? = some (.val (.int x))) (hz : Int32.ofInt i = z) (h : Go C nx (L.set k (.val (.int (x + z)))) S H cells slots) : Go C pc L S H cells slots :=
  go_pure (fun T _ _ _ X t r => by obtain ⟨hd, rfl⟩ := hd; subst hz; exact XS.iinc X.here C.exec rfl (hb C.bys hd) (getL hk) (sto1 (v := .int (x + Int32.ofInt i)) hk rfl rfl) r) h
/-! ### the heap -/
theorem cell_arr {i : Nat} {ty : FieldType} {vs : List Value} {h : Heap} (RR : Rel Z a0 b H h) (hH : H[i]? = some (ar ty vs)) : ∃ c : Cell, Arr Z h (b + i) c ty ∧ c.slots = (vs.map (upV b)).toArray := RR.2 i _ hH
theorem idx_ok {j : Int32} {k n : Nat} (hj : j.toInt = (k : Int)) (hk : k < n) : ¬ (j < 0 ∨ n ≤ j.toNatClampNeg) := by
  rw [Int32.lt_iff_toInt_lt]
  have e0 : (0 : Int32).toInt = 0 := rfl
  simp only [Int32.toNatClampNeg, hj, e0]
  omega
theorem clamp_eq {j : Int32} {k : Nat} (hj : j.toInt = (k : Int)) : j.toNatClampNeg = k := by simp [Int32.toNatClampNeg, hj]
theorem go_iaload {i k : Nat} {vs : List Value} {j : Int32} {v : Value} (hd : Dc bytes pc .iaload 1 nx) (hH : H[i]? = some (ar .int vs)) (hj : j.toInt = (k : Int)) (hv : vs[k]? = some v) (h : Go C nx L (v :: S) H cells slots) : Go C pc L (.int j :: .ref i :: S) H cells slots := by
  intro T locs X N RR
  obtain ⟨c1, A, e1⟩ := cell_arr RR hH
  obtain ⟨hd, rfl⟩ := hd
  have hk : k < vs.length := (List.getElem?_eq_some_iff.mp hv).1
  exact (h T locs X N RR).back fun t r => X.iaload C.exec A.1 (State.isArrayOf_alike C.warm.alike A.2.1) A.2.2 (idx_ok hj (by rw [e1]; simpa using hk)) (by rw [clamp_eq hj, e1]; simp [hv]) (g := frm b m pc L (.int j :: .ref i :: S)) rfl rfl (hb C.bys hd) t r
theorem go_laload {i k : Nat} {vs : List Value} {j : Int32} {v : Value} (hd : Dc bytes pc .laload 1 nx) (hH : H[i]? = some (ar .long vs)) (hj : j.toInt = (k : Int)) (hv : vs[k]? = some v) (h : Go C nx L (v :: S) H cells slots) : Go C pc L (.int j :: .ref i :: S) H cells slots := by
  intro T locs X N RR
  obtain ⟨c1, A, e1⟩ := cell_arr RR hH
  obtain ⟨hd, rfl⟩ := hd
  have hk : k < vs.length := (List.getElem?_eq_some_iff.mp hv).1
  exact (h T locs X N RR).back fun t r => X.laload C.exec A.1 (State.isArrayOf_alike C.warm.alike A.2.1) A.2.2 (idx_ok hj (by rw [e1]; simpa using hk)) (by rw [clamp_eq hj, e1]; simp [hv]) (g := frm b m pc L (.int j :: .ref i :: S)) rfl rfl (hb C.bys hd) t r
theorem go_baload {i k : Nat} {vs : List Value} {j : Int32} {v : Value} (hd : Dc bytes pc .baload 1 nx) (hH : H[i]? = some (ar .byte vs)) (hj : j.toInt = (k : Int)) (hv : vs[k]? = some v) (h : Go C nx L (v :: S) H cells slots) : Go C pc L (.int j :: .ref i :: S) H cells slots := by
  intro T locs X N RR
  obtain ⟨c1, A, e1⟩ := cell_arr RR hH
  obtain ⟨hd, rfl⟩ := hd
  have hk : k < vs.length := (List.getElem?_eq_some_iff.mp hv).1
  exact (h T locs X N RR).back fun t r => X.baloadBytes C.exec A.1 (State.isArrayOf_alike C.warm.alike A.2.1) A.2.2 (idx_ok hj (by rw [e1]; simpa using hk)) (by rw [clamp_eq hj, e1]; simp [hv]) (g := frm b m pc L (.int j :: .ref i :: S)) rfl rfl (hb C.bys hd) t r
theorem go_zaload {i k : Nat} {vs : List Value} {j : Int32} {v : Value} (hd : Dc bytes pc .baload 1 nx) (hH : H[i]? = some (ar .boolean vs)) (hj : j.toInt = (k : Int)) (hv : vs[k]? = some v) (h : Go C nx L (v :: S) H cells slots) : Go C pc L (.int j :: .ref i :: S) H cells slots := by
  intro T locs X N RR
  obtain ⟨c1, A, e1⟩ := cell_arr RR hH
  obtain ⟨hd, rfl⟩ := hd
  have hk : k < vs.length := (List.getElem?_eq_some_iff.mp hv).1
  exact (h T locs X N RR).back fun t r => X.baloadBooleans C.exec A.1 (State.isArrayOf_alike C.warm.alike A.2.1) A.2.2 (idx_ok hj (by rw [e1]; simpa using hk)) (by rw [clamp_eq hj, e1]; simp [hv]) (g := frm b m pc L (.int j :: .ref i :: S)) rfl rfl (hb C.bys hd) t r
theorem go_aaload {i k : Nat} {ty : FieldType} {vs : List Value} {j : Int32} {v : Value} (hd : Dc bytes pc .aaload 1 nx) (hH : H[i]? = some (ar ty vs)) (hty : ty.isReference = true) (hj : j.toInt = (k : Int)) (hv : vs[k]? = some v) (h : Go C nx L (v :: S) H cells slots) : Go C pc L (.int j :: .ref i :: S) H cells slots := by
  intro T locs X N RR
  obtain ⟨c1, A, e1⟩ := cell_arr RR hH
  obtain ⟨hd, rfl⟩ := hd
  have hk : k < vs.length := (List.getElem?_eq_some_iff.mp hv).1
  exact (h T locs X N RR).back fun t r => X.aaload C.exec A.1 (State.isArrayOf_alike C.warm.alike A.2.1) hty A.2.2 (idx_ok hj (by rw [e1]; simpa using hk)) (by rw [clamp_eq hj, e1]; simp [hv]) (g := frm b m pc L (.int j :: .ref i :: S)) rfl rfl (hb C.bys hd) t r
theorem go_len {i : Nat} {ty : FieldType} {vs : List Value} {n : Int32} (hd : Dc bytes pc .arraylength 1 nx) (hH : H[i]? = some (ar ty vs)) (hn : vs.length.toInt32 = n) (h : Go C nx L (.int n :: S) H cells slots) : Go C pc L (.ref i :: S) H cells slots := by
  intro T locs X N RR
  obtain ⟨c1, A, e1⟩ := cell_arr RR hH
  obtain ⟨hd, rfl⟩ := hd
  subst hn
  refine (h T locs X N RR).back fun t k => X.arraylength C.exec A.1 (State.isArrayOf_alike C.warm.alike A.2.1) (g := frm b m pc L (.ref i :: S)) rfl rfl (hb C.bys hd) t ?_
  have e2 : c1.slots.size = vs.length := by rw [e1]; simp
  rw [e2]
  exact k
theorem go_getfield {i j idx : Nat} {Cn n d : String} {fs : List (String × String × Value)} {v : Value} (hd : Dc bytes pc (.getfield idx) 3 nx) (w : Jvm.Cond.fieldLink y.cls idx Cn n d ∈ W) (hH : H[i]? = some (ob Cn fs)) (hf : fs[j]? = some (n, d, v)) (h : Go C nx L (v :: S) H cells slots) : Go C pc L (.ref i :: S) H cells slots := by
  intro T locs X N RR
  obtain ⟨hd, rfl⟩ := hd
  have K : CellOk Z a0 b T.heap (b + i) (ob Cn fs) := RR.2 i _ hH
  obtain ⟨T1, X1, e1, st⟩ := getF X C.exec C.warm C.own (host := "") (Or.inl (C.hw _ w)) Via.refl rfl (K.2.1 _ (List.mem_of_getElem? hf)).1 (g := frm b m pc L (.ref i :: S)) rfl rfl (hb C.bys hd)
  exact (h T1 locs X1 N (by rw [e1]; exact RR)).back st
theorem go_getfieldN {i j idx : Nat} {Cn n d host : String} {fs : List (String × String × Value)} {v : Value} (hd : Dc bytes pc (.getfield idx) 3 nx) (w : Jvm.Cond.fieldLinkNest y.cls idx Cn n d host ∈ W) (hH : H[i]? = some (ob Cn fs)) (hf : fs[j]? = some (n, d, v)) (h : Go C nx L (v :: S) H cells slots) : Go C pc L (.ref i :: S) H cells slots := by
  intro T locs X N RR
  obtain ⟨hd, rfl⟩ := hd
  have K : CellOk Z a0 b T.heap (b + i) (ob Cn fs) := RR.2 i _ hH
  obtain ⟨T1, X1, e1, st⟩ := getF X C.exec C.warm C.own (Or.inr (C.hw _ w)) Via.refl rfl (K.2.1 _ (List.mem_of_getElem? hf)).1 (g := frm b m pc L (.ref i :: S)) rfl rfl (hb C.bys hd)
  exact (h T1 locs X1 N (by rw [e1]; exact RR)).back st
theorem go_putfieldN {i j idx kk : Nat} {Cn n d : String} {fs : List (String × String × Value)} {v v' o : Value} {ty : FieldType} (hd : Dc bytes pc (.putfield idx) 3 nx) (w : Jvm.Cond.fieldLink y.cls idx Cn n d ∈ W) (wl : Jvm.Cond.lays Cn Cn n d ∈ W ∨ (Jvm.Cond.laysFinal Cn Cn n d ∈ W ∧ y.cls = Cn ∧ y.name = "<init>")) (wi : Jvm.Cond.instantiable Cn kk ∈ W) (hty : parseFieldDescriptor d = some ty) (hH : H[i]? = some (ob Cn fs)) (hf : fs[j]? = some (n, d, o)) (hn : narrow ty (upV b v) = upV b v') (hfit : fits ty (upV b v') = true)
    (h : Go C nx L S (H.set i (ob Cn (fs.set j (n, d, v')))) cells slots) : Go C pc L (v :: .ref i :: S) H cells slots := by
  intro T locs X N RR
  obtain ⟨hd, rfl⟩ := hd
  have K : CellOk Z a0 b T.heap (b + i) (ob Cn fs) := RR.2 i _ hH
  obtain ⟨T1, h1, X1, e1, W1, st⟩ := putFN X C.exec C.warm C.own (C.hw _ w) Via.refl rfl (K.2.1 _ (List.mem_of_getElem? hf)).1 K.1 (wl.imp (fun q => C.hw _ q) (fun q => ⟨C.hw _ q.1, q.2.1, C.named.trans q.2.2⟩)) (C.hw _ wi) hty hn hfit (g := frm b m pc L (v :: .ref i :: S)) rfl rfl (hb C.bys hd)
  exact (h T1 _ X1 (Fr.snoc X1 N (Nat.le_add_right ..)) (by rw [e1]; exact RR.wr W1 (K.fset hf W1))).back st
theorem go_putfield {i j idx kk : Nat} {Cn n d : String} {fs : List (String × String × Value)} {v o : Value} {ty : FieldType} (hd : Dc bytes pc (.putfield idx) 3 nx) (w : Jvm.Cond.fieldLink y.cls idx Cn n d ∈ W) (wl : Jvm.Cond.lays Cn Cn n d ∈ W ∨ (Jvm.Cond.laysFinal Cn Cn n d ∈ W ∧ y.cls = Cn ∧ y.name = "<init>")) (wi : Jvm.Cond.instantiable Cn kk ∈ W) (hty : parseFieldDescriptor d = some ty) (hH : H[i]? = some (ob Cn fs)) (hf : fs[j]? = some (n, d, o)) (hn : narrow ty (upV b v) = upV b v) (hfit : fits ty (upV b v) = true)
    (h : Go C nx L S (H.set i (ob Cn (fs.set j (n, d, v)))) cells slots) : Go C pc L (v :: .ref i :: S) H cells slots := go_putfieldN hd w wl wi hty hH hf hn hfit h
theorem go_iastore {i k : Nat} {vs : List Value} {j : Int32} {x : Int32} (hd : Dc bytes pc .iastore 1 nx) (hH : H[i]? = some (ar .int vs)) (hj : j.toInt = (k : Int)) (hk : k < vs.length) (h : Go C nx L S (H.set i (ar .int (vs.set k (.int (x))))) cells slots) : Go C pc L (.int x :: .int j :: .ref i :: S) H cells slots := by
  intro T locs X N RR
  obtain ⟨c1, A, e1⟩ := cell_arr RR hH
  obtain ⟨hd, rfl⟩ := hd
  obtain ⟨T1, h1, X1, eh, W1, st⟩ := stI X C.exec C.warm rfl A (j := j) (idx_ok hj (by rw [e1]; simpa using hk)) (g := frm b m pc L (.int x :: .int j :: .ref i :: S)) rfl rfl (hb C.bys hd)
  rw [clamp_eq hj] at W1
  have K : CellOk Z a0 b h1 (b + i) (ar .int (vs.set k (.int (x)))) := ⟨_, A.same W1, by simp [Cell.setSlot, e1, List.map_set, upV, nar]⟩
  exact (h T1 _ X1 (Fr.snoc X1 N (Nat.le_add_right ..)) (by rw [eh]; exact RR.wr W1 K)).back st
theorem go_lastore {i k : Nat} {vs : List Value} {j : Int32} {x : Int64} (hd : Dc bytes pc .lastore 1 nx) (hH : H[i]? = some (ar .long vs)) (hj : j.toInt = (k : Int)) (hk : k < vs.length) (h : Go C nx L S (H.set i (ar .long (vs.set k (.long (x))))) cells slots) : Go C pc L (.long x :: .int j :: .ref i :: S) H cells slots := by
  intro T locs X N RR
  obtain ⟨c1, A, e1⟩ := cell_arr RR hH
  obtain ⟨hd, rfl⟩ := hd
  obtain ⟨T1, h1, X1, eh, W1, st⟩ := stJ X C.exec C.warm rfl A (j := j) (idx_ok hj (by rw [e1]; simpa using hk)) (g := frm b m pc L (.long x :: .int j :: .ref i :: S)) rfl rfl (hb C.bys hd)
  rw [clamp_eq hj] at W1
  have K : CellOk Z a0 b h1 (b + i) (ar .long (vs.set k (.long (x)))) := ⟨_, A.same W1, by simp [Cell.setSlot, e1, List.map_set, upV, nar]⟩
  exact (h T1 _ X1 (Fr.snoc X1 N (Nat.le_add_right ..)) (by rw [eh]; exact RR.wr W1 K)).back st
theorem go_bastore {i k : Nat} {vs : List Value} {j : Int32} {x : Int32} (hd : Dc bytes pc .bastore 1 nx) (hH : H[i]? = some (ar .byte vs)) (hj : j.toInt = (k : Int)) (hk : k < vs.length) (h : Go C nx L S (H.set i (ar .byte (vs.set k (.int (x.toInt8.toInt32))))) cells slots) : Go C pc L (.int x :: .int j :: .ref i :: S) H cells slots := by
  intro T locs X N RR
  obtain ⟨c1, A, e1⟩ := cell_arr RR hH
  obtain ⟨hd, rfl⟩ := hd
  obtain ⟨T1, h1, X1, eh, W1, st⟩ := stB X C.exec C.warm rfl A (j := j) (idx_ok hj (by rw [e1]; simpa using hk)) (g := frm b m pc L (.int x :: .int j :: .ref i :: S)) rfl rfl (hb C.bys hd)
  rw [clamp_eq hj] at W1
  have K : CellOk Z a0 b h1 (b + i) (ar .byte (vs.set k (.int (x.toInt8.toInt32)))) := ⟨_, A.same W1, by simp [Cell.setSlot, e1, List.map_set, upV, nar]⟩
  exact (h T1 _ X1 (Fr.snoc X1 N (Nat.le_add_right ..)) (by rw [eh]; exact RR.wr W1 K)).back st
theorem go_zastore {i k : Nat} {vs : List Value} {j : Int32} {x : Int32} (hd : Dc bytes pc .bastore 1 nx) (hH : H[i]? = some (ar .boolean vs)) (hj : j.toInt = (k : Int)) (hk : k < vs.length) (h : Go C nx L S (H.set i (ar .boolean (vs.set k (.int (x &&& 1))))) cells slots) : Go C pc L (.int x :: .int j :: .ref i :: S) H cells slots := by
  intro T locs X N RR
  obtain ⟨c1, A, e1⟩ := cell_arr RR hH
  obtain ⟨hd, rfl⟩ := hd
  obtain ⟨T1, h1, X1, eh, W1, st⟩ := stZ X C.exec C.warm rfl A (j := j) (idx_ok hj (by rw [e1]; simpa using hk)) (g := frm b m pc L (.int x :: .int j :: .ref i :: S)) rfl rfl (hb C.bys hd)
  rw [clamp_eq hj] at W1
  have K : CellOk Z a0 b h1 (b + i) (ar .boolean (vs.set k (.int (x &&& 1)))) := ⟨_, A.same W1, by simp [Cell.setSlot, e1, List.map_set, upV, nar]⟩
  exact (h T1 _ X1 (Fr.snoc X1 N (Nat.le_add_right ..)) (by rw [eh]; exact RR.wr W1 K)).back st
/-- the fields of a new object, laid -/
def Laids (Z : State) (a0 : Array Value) (b : Nat) (Cn : String) : List (String × String × Value) → Prop
  | [] => True
  | f :: fs => (Laid Z a0 Cn Cn f.1 f.2.1 ∧ ∃ t, parseFieldDescriptor f.2.1 = some t ∧ defaultValue t = upV b f.2.2) ∧ Laids Z a0 b Cn fs
theorem Laids.all {Cn : String} : ∀ {fs : List (String × String × Value)}, Laids Z a0 b Cn fs → ∀ f ∈ fs, Laid Z a0 Cn Cn f.1 f.2.1 ∧ ∃ t, parseFieldDescriptor f.2.1 = some t ∧ defaultValue t = upV b f.2.2
  | [], _, f, hf => by cases hf
  | g :: gs, h, f, hf => by
    rcases List.mem_cons.mp hf with rfl | hf
    · exact h.1
    · exact Laids.all h.2 f hf
theorem go_new {idx n : Nat} {Cn : String} {fs : List (String × String × Value)} (hd : Dc bytes pc (.new idx) 3 nx) (w : Jvm.Cond.classLink y.cls idx Cn ∈ W) (wi : Jvm.Cond.instantiable Cn n ∈ W) (wz : Jvm.Cond.initialized Cn ∈ W) (hl : Laids Z a0 b Cn fs) (hnd : (fs.map (·.1)).Nodup) (hc : cells + 1 ≤ R.cells) (hs : slots + n ≤ R.slots)
    (h : Go C nx L (.ref H.length :: S) (H ++ [ob Cn fs]) (cells + 1) (slots + n)) : Go C pc L S H cells slots := by
  intro T locs X N RR
  obtain ⟨hd, rfl⟩ := hd
  obtain ⟨vm', cC, kC, h1, h2, h3, h4, X', st⟩ := X.newCold C.exec C.own (mv C.warm (C.hw _ w)) (mv C.warm (C.hw _ wi)) (mv C.warm (C.hw _ wz)) (g := frm b m pc L S) rfl (hb C.bys hd) hc hs
  rw [C.warm.alike.findClass] at h1
  obtain ⟨kZ, z1, -⟩ := Vm.findClass_spec h1
  obtain ⟨k', z2, z3⟩ := C.warm.alike.2.2 _ _ z1
  cases h2.symm.trans z2
  have ei : kC.instanceTypes = kZ.instanceTypes := by rw [z3]
  have hN : (T.heap.push { cls := cC, slots := kC.instanceTypes.map defaultValue, vm := .none })[T.heap.size]? = some { cls := cC, slots := kC.instanceTypes.map defaultValue, vm := .none } := by simp
  have hE : Ext T.heap (T.heap.push { cls := cC, slots := kC.instanceTypes.map defaultValue, vm := .none }) := ⟨by simp, fun a c q => by
    rw [Array.getElem?_push_lt (Array.getElem?_eq_some_iff.mp q).1]; exact (Array.getElem?_eq_getElem _).symm.trans q⟩
  have ea : T.heap.size = b + H.length := RR.1
  have st2 := st
  rw [ea] at st2
  refine (h _ locs X' N (RR.push hE (by simp) ?_)).back st2
  rw [← ea]
  refine ⟨⟨_, kZ, hN, h1, z1, rfl, fun _ => by simp [ei]⟩, fun f hf => ?_, hnd⟩
  obtain ⟨La, t, ht, hdv⟩ := hl.all f hf
  refine ⟨?_, La, t, ht⟩
  obtain ⟨c1, k1, cf, kf, i, ff, a1, a2, a3, a4, a5, a6, -⟩ := La.spec
  cases h1.symm.trans a1
  cases z1.symm.trans a2
  exact ⟨_, cf, kf, i, ff, hN, a3, a4, by simp, rfl, a5, by simp [ei, a6, (State.fieldFound?_type a3 ht).2, hdv]⟩
theorem up_default (t : FieldType) : upV b (defaultValue t) = defaultValue t := by cases t <;> rfl
theorem go_newarray {aty : ArrayType} {n : Int32} {k cap : Nat} {vs : List Value} (hd : Dc bytes pc (.newarray aty) 2 nx) (w : Jvm.Cond.arrayClass (newarray.typeOf aty) ∈ W) (hn : n.toInt = (k : Int)) (hv : List.replicate k (defaultValue (newarray.typeOf aty)) = vs) (hcap : k ≤ cap) (hbig : cap * 8 ≤ 536870912) (hc : cells + 1 ≤ R.cells) (hs : slots + cap ≤ R.slots)
    (h : Go C nx L (.ref H.length :: S) (H ++ [ar (newarray.typeOf aty) vs]) (cells + 1) (slots + cap)) : Go C pc L (.int n :: S) H cells slots := by
  intro T locs X N RR
  obtain ⟨hd, rfl⟩ := hd
  have hcb : componentBytes (newarray.typeOf aty) ≤ 8 := by cases aty <;> decide
  have ek := clamp_eq hn
  obtain ⟨cA, kA, comp, h1, h2, h3, X', st⟩ := X.newarrayPrim C.exec (mvA C.warm (C.hw _ w)) (g := frm b m pc L (.int n :: S)) rfl (hb C.bys hd) rfl (by rw [Int32.lt_iff_toInt_lt, hn]; have : (0 : Int32).toInt = 0 := rfl; omega) (by rw [ek]; exact Nat.le_trans (Nat.mul_le_mul hcap hcb) hbig) hc (by omega)
  rw [ek] at X' st
  rw [C.warm.alike.findClass] at h1
  obtain ⟨kZ, z1, -⟩ := Vm.findClass_spec h1
  obtain ⟨k', z2, z3⟩ := C.warm.alike.2.2 _ _ z1
  cases h2.symm.trans z2
  have ea : T.heap.size = b + H.length := RR.1
  have hE : Ext T.heap (T.heap.push { cls := cA, slots := Array.replicate k (defaultValue (newarray.typeOf aty)), vm := .none }) := ⟨by simp, fun a c q => by
    rw [Array.getElem?_push_lt (Array.getElem?_eq_some_iff.mp q).1]; exact (Array.getElem?_eq_getElem _).symm.trans q⟩
  have st2 := st
  rw [ea] at st2
  refine (h _ locs (X'.more (Nat.le_refl _) (by omega)) N (RR.push hE (by simp) ?_)).back st2
  rw [← ea]
  refine ⟨_, ⟨by show (T.heap.push _)[T.heap.size]? = _; simp; rfl, ⟨by simp, kZ, z1, comp, by rw [← h3, z3]⟩, by simp⟩, ?_⟩
  subst hv
  simp [up_default]
/-! ### calls -/
theorem go_initO {idx : Nat} (hd : Dc bytes pc (.invokespecial idx) 3 nx) (w1 : Jvm.Cond.methodLink y.cls idx Lib.objectInit ∈ W) (w2 : Jvm.Cond.instanceMethod Lib.objectInit ∈ W) (w3 : Jvm.Cond.code Lib.objectInit ⟨#[0xb1]⟩ 1 none ∈ W) (hL : L.length = nL) (hf : 1 ≤ R.frames) (wdt : Nat) (hwd : (S.map Value.category).sum ≤ wdt) (hlo : wdt + 12 ≤ R.locals) {i : Nat}
    (h : Go C nx L S H cells slots) : Go C pc L (.ref i :: S) H cells slots := by
  intro T locs X N RR
  obtain ⟨hd, rfl⟩ := hd
  obtain ⟨T1, X1, e1, st⟩ := initO X C.exec C.warm C.own (C.hw _ w1) (C.hw _ w2) (C.hw _ w3) rfl (g := frm b m pc L (.ref i :: S)) rfl (by simp [C.ml, hL]) rfl (hb C.bys hd) hf (W := wdt) (by
    have : ((S.map (upV b)).map fun v => v.category) = S.map Value.category := by rw [List.map_map]; exact List.map_congr_left fun v _ => cat_up b v
    show 2 * 0 + ((S.map (upV b)).map fun v => v.category).sum ≤ wdt
    rw [this]; omega) hlo
  exact (h T1 locs X1 N (by rw [e1]; exact RR)).back st
theorem wid_up (wdt : Nat) (hwd : (S.map Value.category).sum ≤ wdt) : 2 * 0 + ((S.map (upV b)).map fun v => v.category).sum ≤ wdt := by
  have : ((S.map (upV b)).map fun v => v.category) = S.map Value.category := by rw [List.map_map]; exact List.map_congr_left fun v _ => cat_up b v
  rw [this]; omega
theorem app_up (v : Option Value) : (v.map (upV b)).toList ++ S.map (upV b) = (v.toList ++ S).map (upV b) := by cases v <;> rfl
theorem go_virtual {y' : MethodName} {bytes' : ByteArray} {maxL : Nat} {ret' : Option FieldType} {rm : Room} {as : List Value} {i idx : Nat} {Cn : String} {fs : List (String × String × Value)} {P : Option Value → List GCell → Prop} {ps : List FieldType} {rt : Option FieldType}
    (hd : Dc bytes pc (.invokevirtual idx) 3 nx) (w1 : Jvm.Cond.methodLink y.cls idx y' ∈ W) (w2 : Jvm.Cond.declares y' ∈ W) (w3 : Jvm.Cond.selects Cn y' y' ∈ W) (w4 : Jvm.Cond.instanceMethod y' ∈ W) (w5 : Jvm.Cond.code y' bytes' maxL ret' ∈ W) (w6 : Jvm.Cond.initialized y'.cls ∈ W)
    (hy : y'.cls ≠ "java/lang/invoke/MethodHandle" ∧ y'.cls ≠ "java/lang/invoke/VarHandle") (hdesc : parseMethodDescriptor y'.desc = some ⟨ps, rt⟩) (hlen : as.length = ps.length)
    (M : Met l Z a0 b y' bytes' maxL ret' rm (.ref i :: as) H P) (hH : H[i]? = some (ob Cn fs)) (hS : S' = as.reverse ++ .ref i :: S) (hL : L.length = nL) (wdt : Nat) (hwd : (S.map Value.category).sum ≤ wdt)
    (hfr : rm.frames + 1 ≤ R.frames) (hlo : wdt + (maxL + 11) + rm.locals ≤ R.locals) (hc : cells + rm.cells ≤ R.cells) (hs : slots + rm.slots ≤ R.slots)
    (h : ∀ v H', P v H' → Go C nx L (v.toList ++ S) H' (cells + rm.cells) (slots + rm.slots)) : Go C pc L S' H cells slots := by
  intro T locs X N RR
  obtain ⟨hd, rfl⟩ := hd
  subst hS
  have E : Exa Z T.heap (b + i) Cn := (show CellOk Z a0 b T.heap (b + i) (ob Cn fs) from RR.2 i _ hH).1
  obtain ⟨cB, kB, q1, q2, q3⟩ := isOf (T := T) C.warm rfl E
  obtain ⟨_, _, ⟨T', L', k', n'⟩, -, X', ⟨Lc, hQ, l', y1, z1⟩, st⟩ := X.virtualBack C.exec (y := y') (z := y') C.own (mvT C.warm (C.hw _ w1)) (mvT C.warm (C.hw _ w2)) (notFace_of_selects (args := #[]) (mvT C.warm (C.hw _ w3))) (mvT C.warm (C.hw _ w3)) (mvT C.warm (C.hw _ w4)) hy
    (backOf (W := wdt) (M T.heap RR []) C.warm (C.hw _ w5) (C.hw _ w6) hfr hlo) q1 q3 (g := frm b m pc L (as.reverse ++ .ref i :: S)) rfl (by simp [C.ml, hL]) (Steps.refl _) (argsL := as.map (upV b)) (rest := S.map (upV b)) (lenOf hdesc (by simp [hlen])) (by simp [upV]) (wid_up wdt hwd) (hb C.bys hd) (fun _ _ => ⟨by simp [upV], rfl, hc, hs⟩)
  dsimp only [Pt.U, Pt.locs, Pt.cells, Pt.slots] at X' l' y1 z1 st hQ
  subst l' y1 z1
  obtain ⟨N2, v', H', rfl, RR', hP⟩ := hQ
  refine (h v' H' hP T' _ X' (Fr.app N N2) RR').back fun t k => st.trans ?_
  rw [app_up]
  exact k
theorem go_special {y' : MethodName} {bytes' : ByteArray} {maxL : Nat} {rm : Room} {as : List Value} {i idx : Nat} {P : Option Value → List GCell → Prop} {ps : List FieldType} {rt : Option FieldType} (hn : y'.name = "<init>")
    (hd : Dc bytes pc (.invokespecial idx) 3 nx) (w1 : Jvm.Cond.methodLink y.cls idx y' ∈ W) (w4 : Jvm.Cond.instanceMethod y' ∈ W) (w5 : Jvm.Cond.code y' bytes' maxL none ∈ W) (w6 : Jvm.Cond.initialized y'.cls ∈ W)
    (hy : y'.cls ≠ "java/lang/invoke/MethodHandle" ∧ y'.cls ≠ "java/lang/invoke/VarHandle") (hdesc : parseMethodDescriptor y'.desc = some ⟨ps, rt⟩) (hlen : as.length = ps.length)
    (M : Met l Z a0 b y' bytes' maxL none rm (.ref i :: as) H P) (hS : S' = as.reverse ++ .ref i :: S) (hL : L.length = nL) (wdt : Nat) (hwd : (S.map Value.category).sum ≤ wdt)
    (hfr : rm.frames + 1 ≤ R.frames) (hlo : wdt + (maxL + 11) + rm.locals ≤ R.locals) (hc : cells + rm.cells ≤ R.cells) (hs : slots + rm.slots ≤ R.slots)
    (h : ∀ v H', P v H' → Go C nx L (v.toList ++ S) H' (cells + rm.cells) (slots + rm.slots)) : Go C pc L S' H cells slots := by
  intro T locs X N RR
  obtain ⟨hd, rfl⟩ := hd
  subst hS
  obtain ⟨_, _, ⟨T', L', k', n'⟩, -, X', ⟨Lc, hQ, l', y1, z1⟩, st⟩ := X.specialBack C.exec (y := y') hn C.own (mvT C.warm (C.hw _ w1)) (mvT C.warm (C.hw _ w4)) (mvT C.warm (C.hw _ w5)) hy
    (backOf (W := wdt) (M T.heap RR []) C.warm (C.hw _ w5) (C.hw _ w6) hfr hlo) (g := frm b m pc L (as.reverse ++ .ref i :: S)) rfl (by simp [C.ml, hL]) (Steps.refl _) (a := b + i) (argsL := as.map (upV b)) (rest := S.map (upV b)) (lenOf hdesc (by simp [hlen])) (by simp [upV]) (wid_up wdt hwd) (hb C.bys hd) (fun _ _ => ⟨by simp [upV], rfl, hc, hs⟩)
  dsimp only [Pt.U, Pt.locs, Pt.cells, Pt.slots] at X' l' y1 z1 st hQ
  subst l' y1 z1
  obtain ⟨N2, v', H', rfl, RR', hP⟩ := hQ
  refine (h v' H' hP T' _ X' (Fr.app N N2) RR').back fun t k => st.trans ?_
  rw [app_up]
  exact k
theorem go_static {y' : MethodName} {bytes' : ByteArray} {maxL : Nat} {ret' : Option FieldType} {rm : Room} {as : List Value} {idx : Nat} {P : Option Value → List GCell → Prop} {ps : List FieldType} {rt : Option FieldType}
    (hd : Dc bytes pc (.invokestatic idx) 3 nx) (w1 : Jvm.Cond.methodLink y.cls idx y' ∈ W) (w2 : Jvm.Cond.static y' ∈ W) (w5 : Jvm.Cond.code y' bytes' maxL ret' ∈ W) (w6 : Jvm.Cond.initialized y'.cls ∈ W)
    (hy : y'.cls ≠ "java/lang/invoke/MethodHandle" ∧ y'.cls ≠ "java/lang/invoke/VarHandle") (hdesc : parseMethodDescriptor y'.desc = some ⟨ps, rt⟩) (hlen : as.length = ps.length)
    (M : Met l Z a0 b y' bytes' maxL ret' rm as H P) (hS : S' = as.reverse ++ S) (hL : L.length = nL) (wdt : Nat) (hwd : (S.map Value.category).sum ≤ wdt)
    (hfr : rm.frames + 1 ≤ R.frames) (hlo : wdt + (maxL + 11) + rm.locals ≤ R.locals) (hc : cells + rm.cells ≤ R.cells) (hs : slots + rm.slots ≤ R.slots)
    (h : ∀ v H', P v H' → Go C nx L (v.toList ++ S) H' (cells + rm.cells) (slots + rm.slots)) : Go C pc L S' H cells slots := by
  intro T locs X N RR
  obtain ⟨hd, rfl⟩ := hd
  subst hS
  obtain ⟨_, _, ⟨T', L', k', n'⟩, -, X', ⟨Lc, hQ, l', y1, z1⟩, st⟩ := Jvm.LawKit.callS X C.exec (y := y') C.own (mvT C.warm (C.hw _ w1)) (mvT C.warm (C.hw _ w2)) (mvT C.warm (C.hw _ w6)) (mvT C.warm (C.hw _ w5)) hy
    (backOf (W := wdt) (M T.heap RR []) C.warm (C.hw _ w5) (C.hw _ w6) hfr hlo) (g := frm b m pc L (as.reverse ++ S)) rfl (by simp [C.ml, hL]) (argsL := as.map (upV b)) (rest := S.map (upV b)) (lenOf hdesc (by simp [hlen])) (by simp) (wid_up wdt hwd) (hb C.bys hd) (fun _ _ => ⟨by simp, rfl, hc, hs⟩)
  dsimp only [Pt.U, Pt.locs, Pt.cells, Pt.slots] at X' l' y1 z1 st hQ
  subst l' y1 z1
  obtain ⟨N2, v', H', rfl, RR', hP⟩ := hQ
  refine (h v' H' hP T' _ X' (Fr.app N N2) RR').back fun t k => st _ ?_
  rw [app_up]
  exact k
/-! ### the end -/
theorem go_ret {w w' : Value} {t : FieldType} {i : Instr} (hd : Dc bytes pc i 1 nx) (hret : ret = some t) (hn : narrow t (upV b w) = upV b w)
    (hi : (i = .ireturn ∧ (t = .int ∨ t = .boolean ∨ t = .byte ∨ t = .char ∨ t = .short) ∧ ∃ z, w = .int z) ∨ (i = .lreturn ∧ t = .long ∧ ∃ z, w = .long z) ∨ (i = .areturn ∧ t.isReference = true ∧ w.isRef = true))
    (hc : cells ≤ R.cells) (hs : slots ≤ R.slots) (h : Post (some w) H) : Go C pc L (w :: S) H cells slots := by
  intro T locs X N RR
  obtain ⟨fs, hr, hrun, hended, hW, hsame⟩ := X.leave (v := some (upV b w)) (fun q => by rw [C.rets, hret] at q; cases q) C.nolock
  refine ⟨_, _, retOut X C.exec (t := t) (i := i) (C.rets.trans hret) hn ?_ (hb C.bys hd.1) hr, hrun, hended, _, locs, rfl, ⟨N, some w, H, rfl, RR, h⟩, ⟨_, rfl⟩, hW, hsame.mono hc hs⟩
  rcases hi with ⟨h1, h2, z, rfl⟩ | ⟨h1, h2, z, rfl⟩ | ⟨h1, h2, h3⟩
  · exact Or.inl ⟨h1, h2, z, rfl⟩
  · exact Or.inr (Or.inl ⟨h1, h2, z, rfl⟩)
  · exact Or.inr (Or.inr (Or.inr (Or.inr ⟨h1, h2, (isRef_up b w).trans h3⟩)))
theorem go_ireturn {x : Int32} (hd : Dc bytes pc .ireturn 1 nx) (hret : ret = some .int) (hc : cells ≤ R.cells) (hs : slots ≤ R.slots) (h : Post (some (.int x)) H) : Go C pc L (.int x :: S) H cells slots :=
  go_ret (w' := .null) hd hret rfl (Or.inl ⟨rfl, Or.inl rfl, _, rfl⟩) hc hs h
theorem go_zreturn {x : Int32} (hd : Dc bytes pc .ireturn 1 nx) (hret : ret = some .boolean) (hz : x &&& 1 = x) (hc : cells ≤ R.cells) (hs : slots ≤ R.slots) (h : Post (some (.int x)) H) : Go C pc L (.int x :: S) H cells slots :=
  go_ret (w' := .null) hd hret (by show Value.int (x &&& 1) = .int x; rw [hz]) (Or.inl ⟨rfl, Or.inr (Or.inl rfl), _, rfl⟩) hc hs h
theorem go_breturn {x : Int32} (hd : Dc bytes pc .ireturn 1 nx) (hret : ret = some .byte) (hz : x.toInt8.toInt32 = x) (hc : cells ≤ R.cells) (hs : slots ≤ R.slots) (h : Post (some (.int x)) H) : Go C pc L (.int x :: S) H cells slots :=
  go_ret (w' := .null) hd hret (by show Value.int (x.toInt8.toInt32) = .int x; rw [hz]) (Or.inl ⟨rfl, Or.inr (Or.inr (Or.inl rfl)), _, rfl⟩) hc hs h
theorem go_lreturn {x : Int64} (hd : Dc bytes pc .lreturn 1 nx) (hret : ret = some .long) (hc : cells ≤ R.cells) (hs : slots ≤ R.slots) (h : Post (some (.long x)) H) : Go C pc L (.long x :: S) H cells slots :=
  go_ret (w' := .null) hd hret rfl (Or.inr (Or.inl ⟨rfl, rfl, _, rfl⟩)) hc hs h
theorem narrow_ref {t : FieldType} (ht : t.isReference = true) (v : Value) : narrow t v = v := by cases t <;> first | rfl | cases ht
theorem go_areturn {v : Value} {t : FieldType} (hd : Dc bytes pc .areturn 1 nx) (hret : ret = some t) (ht : t.isReference = true) (hv : v.isRef = true) (hc : cells ≤ R.cells) (hs : slots ≤ R.slots) (h : Post (some v) H) : Go C pc L (v :: S) H cells slots :=
  go_ret (w' := .null) hd hret (narrow_ref ht _) (Or.inr (Or.inr ⟨rfl, ht, hv⟩)) hc hs h
theorem go_return (hd : Dc bytes pc .return_ 1 nx) (hret : ret = none) (hc : cells ≤ R.cells) (hs : slots ≤ R.slots) (h : Post none H) : Go C pc L [] H cells slots := by
  intro T locs X N RR
  obtain ⟨fs, hr, hrun, hended, hW, hsame⟩ := X.leave (v := none) (fun _ => rfl) C.nolock
  exact ⟨_, _, X.returnOut C.exec (C.rets.trans hret) (hb C.bys hd.1) hr, hrun, hended, _, locs, rfl, ⟨N, none, H, rfl, RR, h⟩, ⟨_, rfl⟩, hW, hsame.mono hc hs⟩
def fillL : List Value → List Slot
  | [] => []
  | v :: vs => if v.category = 2 then .val v :: .second :: fillL vs else .val v :: fillL vs
def locs0 (as : List Value) (nL : Nat) : List Slot := fillL as ++ List.replicate (nL - (fillL as).length) .unset
theorem fill_foldl (as : List Value) : ∀ acc : Array Slot, (as.map (upV b)).foldl (fun acc v => if v.category = 2 then (acc.push (.val v)).push .second else acc.push (.val v)) acc = acc ++ ((fillL as).map (upS b)).toArray := by
  induction as with
  | nil => intro acc; simp [fillL]
  | cons v vs ih =>
    intro acc
    simp only [List.map_cons, List.foldl_cons, cat_up, fillL]
    by_cases q : v.category = 2
    · rw [if_pos q, if_pos q, ih]
      simp [upS, ← Array.toList_inj]
    · rw [if_neg q, if_neg q, ih]
      simp [upS, ← Array.toList_inj]
theorem entry_up (m : MethodId) (as : List Value) (nL : Nat) : entryFrame m (as.map (upV b)).toArray nL = frm b m 0 (locs0 as nL) [] := by
  have e := fill_foldl (b := b) as #[]
  have e1 : argsToLocals (as.map (upV b)).toArray nL = ((locs0 as nL).map (upS b)).toArray := by
    simp only [argsToLocals, List.foldl_toArray', List.size_toArray, List.foldl_toArray]
    rw [e]
    simp [locs0, upS, ← Array.toList_inj]
  simp [entryFrame, e1]
end Walk
theorem Met.of_go {l : Launch} {Z : State} {a0 : Array Value} {W : List Jvm.Cond} {b : Nat} {y : MethodName} {bytes : ByteArray} {nL : Nat} {ret : Option FieldType} {rm : Room} {as : List Value} {H : List GCell} {Post : Option Value → List GCell → Prop} (hw : ∀ d ∈ W, d.before a0 Z = true) (hp : plainFor y = true) {L0 : List Slot} (hL : locs0 as nL = L0)
    (body : ∀ p e s m args below meth c (C : Cx p l e rm s m args below meth c Z a0 W b y bytes nL ret Post), Go C 0 L0 [] H 0 0) : Met l Z a0 b y bytes nL ret rm as H Post := by
  intro h RR ws
  refine MetFree.of_bodySF hp hisR ?_
  intro p e s m args below meth c s₁ Bd hml0 hP hK
  obtain ⟨rfl, hZ, hh⟩ := hP
  have C : Cx p l e rm s m (as.map (upV b)).toArray below meth c Z a0 W b y bytes nL ret Post := ⟨Bd.exec, hZ, findClass_of_methodNamed Bd.named, Bd.bytes, hml0, Bd.returns, Bd.notSynchronized, (name_of_methodNamed Bd.named Bd.method).1, hw⟩
  have X0 : Stand p l e rm s m (as.map (upV b)).toArray below meth c s₁ [] 0 0 := Stand.of_body Bd
  have e0 : s₁.heap = h := by rw [← hh, Bd.state]; rfl
  have g := body p e s m _ below meth c C s₁ [] X0 (Fr.nil b) (by rw [e0]; exact RR)
  obtain ⟨s₂, o, hs, hr⟩ := g
  refine ⟨s₂, o, ?_, hr⟩
  rw [entry_up, hL]
  exact hs
section Places
variable {p : Program} {l : Launch} {e : Env} {R : Room} {s : State} {m : MethodId} {args : Array Value} {below : List Frame} {meth : Method} {c : Code} {Z : State} {a0 : Array Value} {W : List Jvm.Cond} {b : Nat} {y : MethodName} {bytes : ByteArray} {nL : Nat} {ret : Option FieldType} {Post : Option Value → List GCell → Prop} {C : Cx p l e R s m args below meth c Z a0 W b y bytes nL ret Post} {pc nx tg : Nat} {L L' : List Slot} {S S' : List Value} {H H' : List GCell} {cells slots : Nat}
theorem go_istore_5 {s0 s1 s2 s3 s4 o : Slot} {x : Int32} (hd : Dc bytes pc (.istore 5) 2 nx) (ho : oneS o = true) (h : Go C nx (s0 :: s1 :: s2 :: s3 :: s4 :: .val (.int x) :: L) S H cells slots) : Go C pc (s0 :: s1 :: s2 :: s3 :: s4 :: o :: L) (.int x :: S) H cells slots := go_istore hd rfl ho h
theorem go_iinc_5 {s0 s1 s2 s3 s4 : Slot} {x z : Int32} {i : Int} (hd : Dc bytes pc (.iinc 5 i) 3 nx) (hz : Int32.ofInt i = z) (h : Go C nx (s0 :: s1 :: s2 :: s3 :: s4 :: .val (.int (x + z)) :: L) S H cells slots) : Go C pc (s0 :: s1 :: s2 :: s3 :: s4 :: .val (.int x) :: L) S H cells slots := go_iinc hd rfl hz h
theorem go_istore_6 {s0 s1 s2 s3 s4 s5 o : Slot} {x : Int32} (hd : Dc bytes pc (.istore 6) 2 nx) (ho : oneS o = true) (h : Go C nx (s0 :: s1 :: s2 :: s3 :: s4 :: s5 :: .val (.int x) :: L) S H cells slots) : Go C pc (s0 :: s1 :: s2 :: s3 :: s4 :: s5 :: o :: L) (.int x :: S) H cells slots := go_istore hd rfl ho h
theorem go_istoreX_6 {s0 s1 s2 s3 s4 s5 o : Slot} {x : Int32} (hd : Dc bytes pc (.istore 6) 2 nx) (ho : oneS o = true) (h : ∀ x', x' = x → Go C nx (s0 :: s1 :: s2 :: s3 :: s4 :: s5 :: .val (.int x') :: L) S H cells slots) : Go C pc (s0 :: s1 :: s2 :: s3 :: s4 :: s5 :: o :: L) (.int x :: S) H cells slots := go_istore hd rfl ho (h x rfl)
theorem go_iinc_6 {s0 s1 s2 s3 s4 s5 : Slot} {x z : Int32} {i : Int} (hd : Dc bytes pc (.iinc 6 i) 3 nx) (hz : Int32.ofInt i = z) (h : Go C nx (s0 :: s1 :: s2 :: s3 :: s4 :: s5 :: .val (.int (x + z)) :: L) S H cells slots) : Go C pc (s0 :: s1 :: s2 :: s3 :: s4 :: s5 :: .val (.int x) :: L) S H cells slots := go_iinc hd rfl hz h
theorem go_istore_7 {s0 s1 s2 s3 s4 s5 s6 o : Slot} {x : Int32} (hd : Dc bytes pc (.istore 7) 2 nx) (ho : oneS o = true) (h : Go C nx (s0 :: s1 :: s2 :: s3 :: s4 :: s5 :: s6 :: .val (.int x) :: L) S H cells slots) : Go C pc (s0 :: s1 :: s2 :: s3 :: s4 :: s5 :: s6 :: o :: L) (.int x :: S) H cells slots := go_istore hd rfl ho h
theorem go_istore_8 {s0 s1 s2 s3 s4 s5 s6 s7 o : Slot} {x : Int32} (hd : Dc bytes pc (.istore 8) 2 nx) (ho : oneS o = true) (h : Go C nx (s0 :: s1 :: s2 :: s3 :: s4 :: s5 :: s6 :: s7 :: .val (.int x) :: L) S H cells slots) : Go C pc (s0 :: s1 :: s2 :: s3 :: s4 :: s5 :: s6 :: s7 :: o :: L) (.int x :: S) H cells slots := go_istore hd rfl ho h
theorem go_istoreX_9 {s0 s1 s2 s3 s4 s5 s6 s7 s8 o : Slot} {x : Int32} (hd : Dc bytes pc (.istore 9) 2 nx) (ho : oneS o = true) (h : ∀ x', x' = x → Go C nx (s0 :: s1 :: s2 :: s3 :: s4 :: s5 :: s6 :: s7 :: s8 :: .val (.int x') :: L) S H cells slots) : Go C pc (s0 :: s1 :: s2 :: s3 :: s4 :: s5 :: s6 :: s7 :: s8 :: o :: L) (.int x :: S) H cells slots := go_istore hd rfl ho (h x rfl)
theorem go_istore_10 {s0 s1 s2 s3 s4 s5 s6 s7 s8 s9 o : Slot} {x : Int32} (hd : Dc bytes pc (.istore 10) 2 nx) (ho : oneS o = true) (h : Go C nx (s0 :: s1 :: s2 :: s3 :: s4 :: s5 :: s6 :: s7 :: s8 :: s9 :: .val (.int x) :: L) S H cells slots) : Go C pc (s0 :: s1 :: s2 :: s3 :: s4 :: s5 :: s6 :: s7 :: s8 :: s9 :: o :: L) (.int x :: S) H cells slots := go_istore hd rfl ho h
theorem go_astore_10 {s0 s1 s2 s3 s4 s5 s6 s7 s8 s9 o : Slot} {v : Value} (hd : Dc bytes pc (.astore 10) 2 nx) (ho : oneS o = true) (hv : v.isRef = true) (h : Go C nx (s0 :: s1 :: s2 :: s3 :: s4 :: s5 :: s6 :: s7 :: s8 :: s9 :: .val v :: L) S H cells slots) : Go C pc (s0 :: s1 :: s2 :: s3 :: s4 :: s5 :: s6 :: s7 :: s8 :: s9 :: o :: L) (v :: S) H cells slots := go_astore hd rfl ho hv h
theorem go_istore_11 {s0 s1 s2 s3 s4 s5 s6 s7 s8 s9 s10 o : Slot} {x : Int32} (hd : Dc bytes pc (.istore 11) 2 nx) (ho : oneS o = true) (h : Go C nx (s0 :: s1 :: s2 :: s3 :: s4 :: s5 :: s6 :: s7 :: s8 :: s9 :: s10 :: .val (.int x) :: L) S H cells slots) : Go C pc (s0 :: s1 :: s2 :: s3 :: s4 :: s5 :: s6 :: s7 :: s8 :: s9 :: s10 :: o :: L) (.int x :: S) H cells slots := go_istore hd rfl ho h
theorem go_astore_11 {s0 s1 s2 s3 s4 s5 s6 s7 s8 s9 s10 o : Slot} {v : Value} (hd : Dc bytes pc (.astore 11) 2 nx) (ho : oneS o = true) (hv : v.isRef = true) (h : Go C nx (s0 :: s1 :: s2 :: s3 :: s4 :: s5 :: s6 :: s7 :: s8 :: s9 :: s10 :: .val v :: L) S H cells slots) : Go C pc (s0 :: s1 :: s2 :: s3 :: s4 :: s5 :: s6 :: s7 :: s8 :: s9 :: s10 :: o :: L) (v :: S) H cells slots := go_astore hd rfl ho hv h
theorem go_istore_12 {s0 s1 s2 s3 s4 s5 s6 s7 s8 s9 s10 s11 o : Slot} {x : Int32} (hd : Dc bytes pc (.istore 12) 2 nx) (ho : oneS o = true) (h : Go C nx (s0 :: s1 :: s2 :: s3 :: s4 :: s5 :: s6 :: s7 :: s8 :: s9 :: s10 :: s11 :: .val (.int x) :: L) S H cells slots) : Go C pc (s0 :: s1 :: s2 :: s3 :: s4 :: s5 :: s6 :: s7 :: s8 :: s9 :: s10 :: s11 :: o :: L) (.int x :: S) H cells slots := go_istore hd rfl ho h
theorem go_astore_12 {s0 s1 s2 s3 s4 s5 s6 s7 s8 s9 s10 s11 o : Slot} {v : Value} (hd : Dc bytes pc (.astore 12) 2 nx) (ho : oneS o = true) (hv : v.isRef = true) (h : Go C nx (s0 :: s1 :: s2 :: s3 :: s4 :: s5 :: s6 :: s7 :: s8 :: s9 :: s10 :: s11 :: .val v :: L) S H cells slots) : Go C pc (s0 :: s1 :: s2 :: s3 :: s4 :: s5 :: s6 :: s7 :: s8 :: s9 :: s10 :: s11 :: o :: L) (v :: S) H cells slots := go_astore hd rfl ho hv h
theorem go_istore_13 {s0 s1 s2 s3 s4 s5 s6 s7 s8 s9 s10 s11 s12 o : Slot} {x : Int32} (hd : Dc bytes pc (.istore 13) 2 nx) (ho : oneS o = true) (h : Go C nx (s0 :: s1 :: s2 :: s3 :: s4 :: s5 :: s6 :: s7 :: s8 :: s9 :: s10 :: s11 :: s12 :: .val (.int x) :: L) S H cells slots) : Go C pc (s0 :: s1 :: s2 :: s3 :: s4 :: s5 :: s6 :: s7 :: s8 :: s9 :: s10 :: s11 :: s12 :: o :: L) (.int x :: S) H cells slots := go_istore hd rfl ho h
theorem go_istore_14 {s0 s1 s2 s3 s4 s5 s6 s7 s8 s9 s10 s11 s12 s13 o : Slot} {x : Int32} (hd : Dc bytes pc (.istore 14) 2 nx) (ho : oneS o = true) (h : Go C nx (s0 :: s1 :: s2 :: s3 :: s4 :: s5 :: s6 :: s7 :: s8 :: s9 :: s10 :: s11 :: s12 :: s13 :: .val (.int x) :: L) S H cells slots) : Go C pc (s0 :: s1 :: s2 :: s3 :: s4 :: s5 :: s6 :: s7 :: s8 :: s9 :: s10 :: s11 :: s12 :: s13 :: o :: L) (.int x :: S) H cells slots := go_istore hd rfl ho h
theorem go_istore_15 {s0 s1 s2 s3 s4 s5 s6 s7 s8 s9 s10 s11 s12 s13 s14 o : Slot} {x : Int32} (hd : Dc bytes pc (.istore 15) 2 nx) (ho : oneS o = true) (h : Go C nx (s0 :: s1 :: s2 :: s3 :: s4 :: s5 :: s6 :: s7 :: s8 :: s9 :: s10 :: s11 :: s12 :: s13 :: s14 :: .val (.int x) :: L) S H cells slots) : Go C pc (s0 :: s1 :: s2 :: s3 :: s4 :: s5 :: s6 :: s7 :: s8 :: s9 :: s10 :: s11 :: s12 :: s13 :: s14 :: o :: L) (.int x :: S) H cells slots := go_istore hd rfl ho h
theorem go_static_2 {a1 a2 : Value} {y' : MethodName} {bytes' : ByteArray} {maxL : Nat} {ret' : Option FieldType} {rm : Room} {idx : Nat} {P : Value → List GCell → Prop} {ps : List FieldType} {rt : Option FieldType} (hd : Dc bytes pc (.invokestatic idx) 3 nx) (w1 : Jvm.Cond.methodLink y.cls idx y' ∈ W) (w2 : Jvm.Cond.static y' ∈ W) (w5 : Jvm.Cond.code y' bytes' maxL ret' ∈ W) (w6 : Jvm.Cond.initialized y'.cls ∈ W) (hy : y'.cls ≠ "java/lang/invoke/MethodHandle" ∧ y'.cls ≠ "java/lang/invoke/VarHandle") (hdesc : parseMethodDescriptor y'.desc = some ⟨ps, rt⟩) (hlen : ps.length = 2)
    (M : Met l Z a0 b y' bytes' maxL ret' rm [a1, a2] H (fun v H' => ∃ w, v = some w ∧ P w H')) (hL : L.length = nL) (wdt : Nat) (hwd : (S.map Value.category).sum = wdt) (hfr : rm.frames + 1 ≤ R.frames) (hlo : wdt + (maxL + 11) + rm.locals ≤ R.locals) (hc : cells + rm.cells ≤ R.cells) (hs : slots + rm.slots ≤ R.slots)
    (h : ∀ w H', P w H' → Go C nx L (w :: S) H' (cells + rm.cells) (slots + rm.slots)) : Go C pc L (a2 :: a1 :: S) H cells slots :=
  go_static hd w1 w2 w5 w6 hy hdesc (as := [a1, a2]) (by rw [hlen]; rfl) M rfl hL wdt (Nat.le_of_eq hwd) hfr hlo hc hs (fun v H' q => by obtain ⟨w, rfl, q⟩ := q; exact h w H' q)
theorem go_static_3 {a1 a2 a3 : Value} {y' : MethodName} {bytes' : ByteArray} {maxL : Nat} {ret' : Option FieldType} {rm : Room} {idx : Nat} {P : Value → List GCell → Prop} {ps : List FieldType} {rt : Option FieldType} (hd : Dc bytes pc (.invokestatic idx) 3 nx) (w1 : Jvm.Cond.methodLink y.cls idx y' ∈ W) (w2 : Jvm.Cond.static y' ∈ W) (w5 : Jvm.Cond.code y' bytes' maxL ret' ∈ W) (w6 : Jvm.Cond.initialized y'.cls ∈ W) (hy : y'.cls ≠ "java/lang/invoke/MethodHandle" ∧ y'.cls ≠ "java/lang/invoke/VarHandle") (hdesc : parseMethodDescriptor y'.desc = some ⟨ps, rt⟩) (hlen : ps.length = 3)
    (M : Met l Z a0 b y' bytes' maxL ret' rm [a1, a2, a3] H (fun v H' => ∃ w, v = some w ∧ P w H')) (hL : L.length = nL) (wdt : Nat) (hwd : (S.map Value.category).sum = wdt) (hfr : rm.frames + 1 ≤ R.frames) (hlo : wdt + (maxL + 11) + rm.locals ≤ R.locals) (hc : cells + rm.cells ≤ R.cells) (hs : slots + rm.slots ≤ R.slots)
    (h : ∀ w H', P w H' → Go C nx L (w :: S) H' (cells + rm.cells) (slots + rm.slots)) : Go C pc L (a3 :: a2 :: a1 :: S) H cells slots :=
  go_static hd w1 w2 w5 w6 hy hdesc (as := [a1, a2, a3]) (by rw [hlen]; rfl) M rfl hL wdt (Nat.le_of_eq hwd) hfr hlo hc hs (fun v H' q => by obtain ⟨w, rfl, q⟩ := q; exact h w H' q)
theorem go_staticV_5 {a1 a2 a3 a4 a5 : Value} {y' : MethodName} {bytes' : ByteArray} {maxL : Nat} {ret' : Option FieldType} {rm : Room} {idx : Nat} {P : List GCell → Prop} {ps : List FieldType} {rt : Option FieldType} (hd : Dc bytes pc (.invokestatic idx) 3 nx) (w1 : Jvm.Cond.methodLink y.cls idx y' ∈ W) (w2 : Jvm.Cond.static y' ∈ W) (w5 : Jvm.Cond.code y' bytes' maxL ret' ∈ W) (w6 : Jvm.Cond.initialized y'.cls ∈ W) (hy : y'.cls ≠ "java/lang/invoke/MethodHandle" ∧ y'.cls ≠ "java/lang/invoke/VarHandle") (hdesc : parseMethodDescriptor y'.desc = some ⟨ps, rt⟩) (hlen : ps.length = 5)
    (M : Met l Z a0 b y' bytes' maxL ret' rm [a1, a2, a3, a4, a5] H (fun v H' => v = none ∧ P H')) (hL : L.length = nL) (wdt : Nat) (hwd : (S.map Value.category).sum = wdt) (hfr : rm.frames + 1 ≤ R.frames) (hlo : wdt + (maxL + 11) + rm.locals ≤ R.locals) (hc : cells + rm.cells ≤ R.cells) (hs : slots + rm.slots ≤ R.slots)
    (h : ∀ H', P H' → Go C nx L S H' (cells + rm.cells) (slots + rm.slots)) : Go C pc L (a5 :: a4 :: a3 :: a2 :: a1 :: S) H cells slots :=
  go_static hd w1 w2 w5 w6 hy hdesc (as := [a1, a2, a3, a4, a5]) (by rw [hlen]; rfl) M rfl hL wdt (Nat.le_of_eq hwd) hfr hlo hc hs (fun v H' q => by obtain ⟨rfl, q⟩ := q; exact h H' q)
theorem go_static_10 {a1 a2 a3 a4 a5 a6 a7 a8 a9 a10 : Value} {y' : MethodName} {bytes' : ByteArray} {maxL : Nat} {ret' : Option FieldType} {rm : Room} {idx : Nat} {P : Value → List GCell → Prop} {ps : List FieldType} {rt : Option FieldType} (hd : Dc bytes pc (.invokestatic idx) 3 nx) (w1 : Jvm.Cond.methodLink y.cls idx y' ∈ W) (w2 : Jvm.Cond.static y' ∈ W) (w5 : Jvm.Cond.code y' bytes' maxL ret' ∈ W) (w6 : Jvm.Cond.initialized y'.cls ∈ W) (hy : y'.cls ≠ "java/lang/invoke/MethodHandle" ∧ y'.cls ≠ "java/lang/invoke/VarHandle") (hdesc : parseMethodDescriptor y'.desc = some ⟨ps, rt⟩) (hlen : ps.length = 10)
    (M : Met l Z a0 b y' bytes' maxL ret' rm [a1, a2, a3, a4, a5, a6, a7, a8, a9, a10] H (fun v H' => ∃ w, v = some w ∧ P w H')) (hL : L.length = nL) (wdt : Nat) (hwd : (S.map Value.category).sum = wdt) (hfr : rm.frames + 1 ≤ R.frames) (hlo : wdt + (maxL + 11) + rm.locals ≤ R.locals) (hc : cells + rm.cells ≤ R.cells) (hs : slots + rm.slots ≤ R.slots)
    (h : ∀ w H', P w H' → Go C nx L (w :: S) H' (cells + rm.cells) (slots + rm.slots)) : Go C pc L (a10 :: a9 :: a8 :: a7 :: a6 :: a5 :: a4 :: a3 :: a2 :: a1 :: S) H cells slots :=
  go_static hd w1 w2 w5 w6 hy hdesc (as := [a1, a2, a3, a4, a5, a6, a7, a8, a9, a10]) (by rw [hlen]; rfl) M rfl hL wdt (Nat.le_of_eq hwd) hfr hlo hc hs (fun v H' q => by obtain ⟨w, rfl, q⟩ := q; exact h w H' q)
end Places
end Jvm.GoKit

namespace Jvm.Pilot.@@N@@
open Jvm Jvm.ClassFile Sem Op Lib Jvm.Free Jvm.Stand Jvm.LawKit Jvm.RoadKit Bundle Jvm.GoKit Jvm.Pilot.@@N@@.Jvm.D
theorem e0_0 : Dc code 0 (.iconst 1) 1 1 := ⟨at_0, rfl⟩
theorem e0_1 : Dc code 1 (.iload_n 0) 1 2 := ⟨at_1, rfl⟩
theorem e0_2 : Dc code 2 (.bipush 6) 2 4 := ⟨at_2, rfl⟩
theorem e0_4 : Dc code 4 (.invokestatic 8) 3 7 := ⟨at_4, rfl⟩
theorem e0_7 : Dc code 7 (.iadd) 1 8 := ⟨at_7, rfl⟩
theorem e0_8 : Dc code 8 (.istore 6) 2 10 := ⟨at_8, rfl⟩
theorem e0_10 : Dc code 10 (.iload_n 1) 1 11 := ⟨at_10, rfl⟩
theorem e0_11 : Dc code 11 (.bipush 7) 2 13 := ⟨at_11, rfl⟩
theorem e0_13 : Dc code 13 (.invokestatic 8) 3 16 := ⟨at_13, rfl⟩
theorem e0_16 : Dc code 16 (.istore 7) 2 18 := ⟨at_16, rfl⟩
theorem e0_18 : Dc code 18 (.iload 4) 2 20 := ⟨at_18, rfl⟩
theorem e0_20 : Dc code 20 (.bipush 7) 2 22 := ⟨at_20, rfl⟩
theorem e0_22 : Dc code 22 (.invokestatic 8) 3 25 := ⟨at_22, rfl⟩
theorem e0_25 : Dc code 25 (.istore 8) 2 27 := ⟨at_25, rfl⟩
theorem e0_27 : Dc code 27 (.iload 8) 2 29 := ⟨at_27, rfl⟩
theorem e0_29 : Dc code 29 (.iload 5) 2 31 := ⟨at_29, rfl⟩
theorem e0_31 : Dc code 31 (.bipush 7) 2 33 := ⟨at_31, rfl⟩
theorem e0_33 : Dc code 33 (.iload 8) 2 35 := ⟨at_33, rfl⟩
theorem e0_35 : Dc code 35 (.isub) 1 36 := ⟨at_35, rfl⟩
theorem e0_36 : Dc code 36 (.invokestatic 8) 3 39 := ⟨at_36, rfl⟩
theorem e0_39 : Dc code 39 (.iadd) 1 40 := ⟨at_39, rfl⟩
theorem e0_40 : Dc code 40 (.istore 9) 2 42 := ⟨at_40, rfl⟩
theorem e0_42 : Dc code 42 (.bipush 7) 2 44 := ⟨at_42, rfl⟩
theorem e0_44 : Dc code 44 (.newarray .int) 2 46 := ⟨at_44, rfl⟩
theorem e0_46 : Dc code 46 (.astore 10) 2 48 := ⟨at_46, rfl⟩
theorem e0_48 : Dc code 48 (.aload 10) 2 50 := ⟨at_48, rfl⟩
theorem e0_50 : Dc code 50 (.iconst 0) 1 51 := ⟨at_50, rfl⟩
theorem e0_51 : Dc code 51 (.iconst 0) 1 52 := ⟨at_51, rfl⟩
theorem e0_52 : Dc code 52 (.iload 6) 2 54 := ⟨at_52, rfl⟩
theorem e0_54 : Dc code 54 (.iload 7) 2 56 := ⟨at_54, rfl⟩
theorem e0_56 : Dc code 56 (.invokestatic 14) 3 59 := ⟨at_56, rfl⟩
theorem e0_59 : Dc code 59 (.iastore) 1 60 := ⟨at_59, rfl⟩
theorem e0_60 : Dc code 60 (.aload 10) 2 62 := ⟨at_60, rfl⟩
theorem e0_62 : Dc code 62 (.iconst 1) 1 63 := ⟨at_62, rfl⟩
theorem e0_63 : Dc code 63 (.iconst 1) 1 64 := ⟨at_63, rfl⟩
theorem e0_64 : Dc code 64 (.iload 6) 2 66 := ⟨at_64, rfl⟩
theorem e0_66 : Dc code 66 (.iload 7) 2 68 := ⟨at_66, rfl⟩
theorem e0_68 : Dc code 68 (.invokestatic 14) 3 71 := ⟨at_68, rfl⟩
theorem e0_71 : Dc code 71 (.iastore) 1 72 := ⟨at_71, rfl⟩
theorem e0_72 : Dc code 72 (.aload 10) 2 74 := ⟨at_72, rfl⟩
theorem e0_74 : Dc code 74 (.iconst 2) 1 75 := ⟨at_74, rfl⟩
theorem e0_75 : Dc code 75 (.iconst 2) 1 76 := ⟨at_75, rfl⟩
theorem e0_76 : Dc code 76 (.iload 6) 2 78 := ⟨at_76, rfl⟩
theorem e0_78 : Dc code 78 (.iload 7) 2 80 := ⟨at_78, rfl⟩
theorem e0_80 : Dc code 80 (.invokestatic 14) 3 83 := ⟨at_80, rfl⟩
theorem e0_83 : Dc code 83 (.iastore) 1 84 := ⟨at_83, rfl⟩
theorem e0_84 : Dc code 84 (.aload 10) 2 86 := ⟨at_84, rfl⟩
theorem e0_86 : Dc code 86 (.iconst 3) 1 87 := ⟨at_86, rfl⟩
theorem e0_87 : Dc code 87 (.iconst 3) 1 88 := ⟨at_87, rfl⟩
theorem e0_88 : Dc code 88 (.iload 6) 2 90 := ⟨at_88, rfl⟩
theorem e0_90 : Dc code 90 (.iload 7) 2 92 := ⟨at_90, rfl⟩
theorem e0_92 : Dc code 92 (.invokestatic 14) 3 95 := ⟨at_92, rfl⟩
theorem e0_95 : Dc code 95 (.iastore) 1 96 := ⟨at_95, rfl⟩
theorem e0_96 : Dc code 96 (.aload 10) 2 98 := ⟨at_96, rfl⟩
theorem e0_98 : Dc code 98 (.iconst 4) 1 99 := ⟨at_98, rfl⟩
theorem e0_99 : Dc code 99 (.iconst 4) 1 100 := ⟨at_99, rfl⟩
theorem e0_100 : Dc code 100 (.iload 6) 2 102 := ⟨at_100, rfl⟩
theorem e0_102 : Dc code 102 (.iload 7) 2 104 := ⟨at_102, rfl⟩
theorem e0_104 : Dc code 104 (.invokestatic 14) 3 107 := ⟨at_104, rfl⟩
theorem e0_107 : Dc code 107 (.iastore) 1 108 := ⟨at_107, rfl⟩
theorem e0_108 : Dc code 108 (.aload 10) 2 110 := ⟨at_108, rfl⟩
theorem e0_110 : Dc code 110 (.iconst 5) 1 111 := ⟨at_110, rfl⟩
theorem e0_111 : Dc code 111 (.iconst 5) 1 112 := ⟨at_111, rfl⟩
theorem e0_112 : Dc code 112 (.iload 6) 2 114 := ⟨at_112, rfl⟩
theorem e0_114 : Dc code 114 (.iload 7) 2 116 := ⟨at_114, rfl⟩
theorem e0_116 : Dc code 116 (.invokestatic 14) 3 119 := ⟨at_116, rfl⟩
theorem e0_119 : Dc code 119 (.iastore) 1 120 := ⟨at_119, rfl⟩
theorem e0_120 : Dc code 120 (.aload 10) 2 122 := ⟨at_120, rfl⟩
theorem e0_122 : Dc code 122 (.bipush 6) 2 124 := ⟨at_122, rfl⟩
theorem e0_124 : Dc code 124 (.bipush 6) 2 126 := ⟨at_124, rfl⟩
theorem e0_126 : Dc code 126 (.iload 6) 2 128 := ⟨at_126, rfl⟩
theorem e0_128 : Dc code 128 (.iload 7) 2 130 := ⟨at_128, rfl⟩
theorem e0_130 : Dc code 130 (.invokestatic 14) 3 133 := ⟨at_130, rfl⟩
theorem e0_133 : Dc code 133 (.iastore) 1 134 := ⟨at_133, rfl⟩
theorem e0_134 : Dc code 134 (.bipush 7) 2 136 := ⟨at_134, rfl⟩
theorem e0_136 : Dc code 136 (.newarray .int) 2 138 := ⟨at_136, rfl⟩
theorem e0_138 : Dc code 138 (.astore 11) 2 140 := ⟨at_138, rfl⟩
theorem e0_140 : Dc code 140 (.aload 11) 2 142 := ⟨at_140, rfl⟩
theorem e0_142 : Dc code 142 (.iconst 0) 1 143 := ⟨at_142, rfl⟩
theorem e0_143 : Dc code 143 (.iload_n 2) 1 144 := ⟨at_143, rfl⟩
theorem e0_144 : Dc code 144 (.iastore) 1 145 := ⟨at_144, rfl⟩
theorem e0_145 : Dc code 145 (.aload 11) 2 147 := ⟨at_145, rfl⟩
theorem e0_147 : Dc code 147 (.iconst 1) 1 148 := ⟨at_147, rfl⟩
theorem e0_148 : Dc code 148 (.iload_n 2) 1 149 := ⟨at_148, rfl⟩
theorem e0_149 : Dc code 149 (.iconst 1) 1 150 := ⟨at_149, rfl⟩
theorem e0_150 : Dc code 150 (.iadd) 1 151 := ⟨at_150, rfl⟩
theorem e0_151 : Dc code 151 (.iastore) 1 152 := ⟨at_151, rfl⟩
theorem e0_152 : Dc code 152 (.aload 11) 2 154 := ⟨at_152, rfl⟩
theorem e0_154 : Dc code 154 (.iconst 2) 1 155 := ⟨at_154, rfl⟩
theorem e0_155 : Dc code 155 (.iload_n 2) 1 156 := ⟨at_155, rfl⟩
theorem e0_156 : Dc code 156 (.iconst 2) 1 157 := ⟨at_156, rfl⟩
theorem e0_157 : Dc code 157 (.iadd) 1 158 := ⟨at_157, rfl⟩
theorem e0_158 : Dc code 158 (.iastore) 1 159 := ⟨at_158, rfl⟩
theorem e0_159 : Dc code 159 (.aload 11) 2 161 := ⟨at_159, rfl⟩
theorem e0_161 : Dc code 161 (.iconst 3) 1 162 := ⟨at_161, rfl⟩
theorem e0_162 : Dc code 162 (.iload_n 2) 1 163 := ⟨at_162, rfl⟩
theorem e0_163 : Dc code 163 (.iconst 3) 1 164 := ⟨at_163, rfl⟩
theorem e0_164 : Dc code 164 (.iadd) 1 165 := ⟨at_164, rfl⟩
theorem e0_165 : Dc code 165 (.iastore) 1 166 := ⟨at_165, rfl⟩
theorem e0_166 : Dc code 166 (.aload 11) 2 168 := ⟨at_166, rfl⟩
theorem e0_168 : Dc code 168 (.iconst 4) 1 169 := ⟨at_168, rfl⟩
theorem e0_169 : Dc code 169 (.iload_n 2) 1 170 := ⟨at_169, rfl⟩
theorem e0_170 : Dc code 170 (.iconst 4) 1 171 := ⟨at_170, rfl⟩
theorem e0_171 : Dc code 171 (.iadd) 1 172 := ⟨at_171, rfl⟩
theorem e0_172 : Dc code 172 (.iastore) 1 173 := ⟨at_172, rfl⟩
theorem e0_173 : Dc code 173 (.aload 11) 2 175 := ⟨at_173, rfl⟩
theorem e0_175 : Dc code 175 (.iconst 5) 1 176 := ⟨at_175, rfl⟩
theorem e0_176 : Dc code 176 (.iload_n 2) 1 177 := ⟨at_176, rfl⟩
theorem e0_177 : Dc code 177 (.iconst 5) 1 178 := ⟨at_177, rfl⟩
theorem e0_178 : Dc code 178 (.iadd) 1 179 := ⟨at_178, rfl⟩
theorem e0_179 : Dc code 179 (.iastore) 1 180 := ⟨at_179, rfl⟩
theorem e0_180 : Dc code 180 (.aload 11) 2 182 := ⟨at_180, rfl⟩
theorem e0_182 : Dc code 182 (.bipush 6) 2 184 := ⟨at_182, rfl⟩
theorem e0_184 : Dc code 184 (.iload_n 2) 1 185 := ⟨at_184, rfl⟩
theorem e0_185 : Dc code 185 (.bipush 6) 2 187 := ⟨at_185, rfl⟩
theorem e0_187 : Dc code 187 (.iadd) 1 188 := ⟨at_187, rfl⟩
theorem e0_188 : Dc code 188 (.iastore) 1 189 := ⟨at_188, rfl⟩
theorem e0_189 : Dc code 189 (.bipush 7) 2 191 := ⟨at_189, rfl⟩
theorem e0_191 : Dc code 191 (.newarray .int) 2 193 := ⟨at_191, rfl⟩
theorem e0_193 : Dc code 193 (.astore 12) 2 195 := ⟨at_193, rfl⟩
theorem e0_195 : Dc code 195 (.aload 12) 2 197 := ⟨at_195, rfl⟩
theorem e0_197 : Dc code 197 (.iconst 0) 1 198 := ⟨at_197, rfl⟩
theorem e0_198 : Dc code 198 (.iload_n 3) 1 199 := ⟨at_198, rfl⟩
theorem e0_199 : Dc code 199 (.iastore) 1 200 := ⟨at_199, rfl⟩
theorem e0_200 : Dc code 200 (.aload 12) 2 202 := ⟨at_200, rfl⟩
theorem e0_202 : Dc code 202 (.iconst 1) 1 203 := ⟨at_202, rfl⟩
theorem e0_203 : Dc code 203 (.iload_n 3) 1 204 := ⟨at_203, rfl⟩
theorem e0_204 : Dc code 204 (.iconst 1) 1 205 := ⟨at_204, rfl⟩
theorem e0_205 : Dc code 205 (.iadd) 1 206 := ⟨at_205, rfl⟩
theorem e0_206 : Dc code 206 (.iastore) 1 207 := ⟨at_206, rfl⟩
theorem e0_207 : Dc code 207 (.aload 12) 2 209 := ⟨at_207, rfl⟩
theorem e0_209 : Dc code 209 (.iconst 2) 1 210 := ⟨at_209, rfl⟩
theorem e0_210 : Dc code 210 (.iload_n 3) 1 211 := ⟨at_210, rfl⟩
theorem e0_211 : Dc code 211 (.iconst 2) 1 212 := ⟨at_211, rfl⟩
theorem e0_212 : Dc code 212 (.iadd) 1 213 := ⟨at_212, rfl⟩
theorem e0_213 : Dc code 213 (.iastore) 1 214 := ⟨at_213, rfl⟩
theorem e0_214 : Dc code 214 (.aload 12) 2 216 := ⟨at_214, rfl⟩
theorem e0_216 : Dc code 216 (.iconst 3) 1 217 := ⟨at_216, rfl⟩
theorem e0_217 : Dc code 217 (.iload_n 3) 1 218 := ⟨at_217, rfl⟩
theorem e0_218 : Dc code 218 (.iconst 3) 1 219 := ⟨at_218, rfl⟩
theorem e0_219 : Dc code 219 (.iadd) 1 220 := ⟨at_219, rfl⟩
theorem e0_220 : Dc code 220 (.iastore) 1 221 := ⟨at_220, rfl⟩
theorem e0_221 : Dc code 221 (.aload 12) 2 223 := ⟨at_221, rfl⟩
theorem e0_223 : Dc code 223 (.iconst 4) 1 224 := ⟨at_223, rfl⟩
theorem e0_224 : Dc code 224 (.iload_n 3) 1 225 := ⟨at_224, rfl⟩
theorem e0_225 : Dc code 225 (.iconst 4) 1 226 := ⟨at_225, rfl⟩
theorem e0_226 : Dc code 226 (.iadd) 1 227 := ⟨at_226, rfl⟩
theorem e0_227 : Dc code 227 (.iastore) 1 228 := ⟨at_227, rfl⟩
theorem e0_228 : Dc code 228 (.aload 12) 2 230 := ⟨at_228, rfl⟩
theorem e0_230 : Dc code 230 (.iconst 5) 1 231 := ⟨at_230, rfl⟩
theorem e0_231 : Dc code 231 (.iload_n 3) 1 232 := ⟨at_231, rfl⟩
theorem e0_232 : Dc code 232 (.iconst 5) 1 233 := ⟨at_232, rfl⟩
theorem e0_233 : Dc code 233 (.iadd) 1 234 := ⟨at_233, rfl⟩
theorem e0_234 : Dc code 234 (.iastore) 1 235 := ⟨at_234, rfl⟩
theorem e0_235 : Dc code 235 (.aload 12) 2 237 := ⟨at_235, rfl⟩
theorem e0_237 : Dc code 237 (.bipush 6) 2 239 := ⟨at_237, rfl⟩
theorem e0_239 : Dc code 239 (.iload_n 3) 1 240 := ⟨at_239, rfl⟩
theorem e0_240 : Dc code 240 (.bipush 6) 2 242 := ⟨at_240, rfl⟩
theorem e0_242 : Dc code 242 (.iadd) 1 243 := ⟨at_242, rfl⟩
theorem e0_243 : Dc code 243 (.iastore) 1 244 := ⟨at_243, rfl⟩
theorem e0_244 : Dc code 244 (.aload 10) 2 246 := ⟨at_244, rfl⟩
theorem e0_246 : Dc code 246 (.aload 11) 2 248 := ⟨at_246, rfl⟩
theorem e0_248 : Dc code 248 (.aload 12) 2 250 := ⟨at_248, rfl⟩
theorem e0_250 : Dc code 250 (.iload 8) 2 252 := ⟨at_250, rfl⟩
theorem e0_252 : Dc code 252 (.iload 9) 2 254 := ⟨at_252, rfl⟩
theorem e0_254 : Dc code 254 (.invokestatic 18) 3 257 := ⟨at_254, rfl⟩
theorem e0_257 : Dc code 257 (.iconst 0) 1 258 := ⟨at_257, rfl⟩
theorem e0_258 : Dc code 258 (.aload 10) 2 260 := ⟨at_258, rfl⟩
theorem e0_260 : Dc code 260 (.aload 11) 2 262 := ⟨at_260, rfl⟩
theorem e0_262 : Dc code 262 (.aload 12) 2 264 := ⟨at_262, rfl⟩
theorem e0_264 : Dc code 264 (.iload 6) 2 266 := ⟨at_264, rfl⟩
theorem e0_266 : Dc code 266 (.iload 7) 2 268 := ⟨at_266, rfl⟩
theorem e0_268 : Dc code 268 (.iload_n 2) 1 269 := ⟨at_268, rfl⟩
theorem e0_269 : Dc code 269 (.iload_n 3) 1 270 := ⟨at_269, rfl⟩
theorem e0_270 : Dc code 270 (.iload 8) 2 272 := ⟨at_270, rfl⟩
theorem e0_272 : Dc code 272 (.iload 9) 2 274 := ⟨at_272, rfl⟩
theorem e0_274 : Dc code 274 (.invokestatic 24) 3 277 := ⟨at_274, rfl⟩
theorem e0_277 : Dc code 277 (.ifCond .eq 146) 3 280 := ⟨at_277, rfl⟩
theorem e0_280 : Dc code 280 (.iconst 1) 1 281 := ⟨at_280, rfl⟩
theorem e0_281 : Dc code 281 (.aload 10) 2 283 := ⟨at_281, rfl⟩
theorem e0_283 : Dc code 283 (.aload 11) 2 285 := ⟨at_283, rfl⟩
theorem e0_285 : Dc code 285 (.aload 12) 2 287 := ⟨at_285, rfl⟩
theorem e0_287 : Dc code 287 (.iload 6) 2 289 := ⟨at_287, rfl⟩
theorem e0_289 : Dc code 289 (.iload 7) 2 291 := ⟨at_289, rfl⟩
theorem e0_291 : Dc code 291 (.iload_n 2) 1 292 := ⟨at_291, rfl⟩
theorem e0_292 : Dc code 292 (.iload_n 3) 1 293 := ⟨at_292, rfl⟩
theorem e0_293 : Dc code 293 (.iload 8) 2 295 := ⟨at_293, rfl⟩
theorem e0_295 : Dc code 295 (.iload 9) 2 297 := ⟨at_295, rfl⟩
theorem e0_297 : Dc code 297 (.invokestatic 24) 3 300 := ⟨at_297, rfl⟩
theorem e0_300 : Dc code 300 (.ifCond .eq 123) 3 303 := ⟨at_300, rfl⟩
theorem e0_303 : Dc code 303 (.iconst 2) 1 304 := ⟨at_303, rfl⟩
theorem e0_304 : Dc code 304 (.aload 10) 2 306 := ⟨at_304, rfl⟩
theorem e0_306 : Dc code 306 (.aload 11) 2 308 := ⟨at_306, rfl⟩
theorem e0_308 : Dc code 308 (.aload 12) 2 310 := ⟨at_308, rfl⟩
theorem e0_310 : Dc code 310 (.iload 6) 2 312 := ⟨at_310, rfl⟩
theorem e0_312 : Dc code 312 (.iload 7) 2 314 := ⟨at_312, rfl⟩
theorem e0_314 : Dc code 314 (.iload_n 2) 1 315 := ⟨at_314, rfl⟩
theorem e0_315 : Dc code 315 (.iload_n 3) 1 316 := ⟨at_315, rfl⟩
theorem e0_316 : Dc code 316 (.iload 8) 2 318 := ⟨at_316, rfl⟩
theorem e0_318 : Dc code 318 (.iload 9) 2 320 := ⟨at_318, rfl⟩
theorem e0_320 : Dc code 320 (.invokestatic 24) 3 323 := ⟨at_320, rfl⟩
theorem e0_323 : Dc code 323 (.ifCond .eq 100) 3 326 := ⟨at_323, rfl⟩
theorem e0_326 : Dc code 326 (.iconst 3) 1 327 := ⟨at_326, rfl⟩
theorem e0_327 : Dc code 327 (.aload 10) 2 329 := ⟨at_327, rfl⟩
theorem e0_329 : Dc code 329 (.aload 11) 2 331 := ⟨at_329, rfl⟩
theorem e0_331 : Dc code 331 (.aload 12) 2 333 := ⟨at_331, rfl⟩
theorem e0_333 : Dc code 333 (.iload 6) 2 335 := ⟨at_333, rfl⟩
theorem e0_335 : Dc code 335 (.iload 7) 2 337 := ⟨at_335, rfl⟩
theorem e0_337 : Dc code 337 (.iload_n 2) 1 338 := ⟨at_337, rfl⟩
theorem e0_338 : Dc code 338 (.iload_n 3) 1 339 := ⟨at_338, rfl⟩
theorem e0_339 : Dc code 339 (.iload 8) 2 341 := ⟨at_339, rfl⟩
theorem e0_341 : Dc code 341 (.iload 9) 2 343 := ⟨at_341, rfl⟩
theorem e0_343 : Dc code 343 (.invokestatic 24) 3 346 := ⟨at_343, rfl⟩
theorem e0_346 : Dc code 346 (.ifCond .eq 77) 3 349 := ⟨at_346, rfl⟩
theorem e0_349 : Dc code 349 (.iconst 4) 1 350 := ⟨at_349, rfl⟩
theorem e0_350 : Dc code 350 (.aload 10) 2 352 := ⟨at_350, rfl⟩
theorem e0_352 : Dc code 352 (.aload 11) 2 354 := ⟨at_352, rfl⟩
theorem e0_354 : Dc code 354 (.aload 12) 2 356 := ⟨at_354, rfl⟩
theorem e0_356 : Dc code 356 (.iload 6) 2 358 := ⟨at_356, rfl⟩
theorem e0_358 : Dc code 358 (.iload 7) 2 360 := ⟨at_358, rfl⟩
theorem e0_360 : Dc code 360 (.iload_n 2) 1 361 := ⟨at_360, rfl⟩
theorem e0_361 : Dc code 361 (.iload_n 3) 1 362 := ⟨at_361, rfl⟩
theorem e0_362 : Dc code 362 (.iload 8) 2 364 := ⟨at_362, rfl⟩
theorem e0_364 : Dc code 364 (.iload 9) 2 366 := ⟨at_364, rfl⟩
theorem e0_366 : Dc code 366 (.invokestatic 24) 3 369 := ⟨at_366, rfl⟩
theorem e0_369 : Dc code 369 (.ifCond .eq 54) 3 372 := ⟨at_369, rfl⟩
theorem e0_372 : Dc code 372 (.iconst 5) 1 373 := ⟨at_372, rfl⟩
theorem e0_373 : Dc code 373 (.aload 10) 2 375 := ⟨at_373, rfl⟩
theorem e0_375 : Dc code 375 (.aload 11) 2 377 := ⟨at_375, rfl⟩
theorem e0_377 : Dc code 377 (.aload 12) 2 379 := ⟨at_377, rfl⟩
theorem e0_379 : Dc code 379 (.iload 6) 2 381 := ⟨at_379, rfl⟩
theorem e0_381 : Dc code 381 (.iload 7) 2 383 := ⟨at_381, rfl⟩
theorem e0_383 : Dc code 383 (.iload_n 2) 1 384 := ⟨at_383, rfl⟩
theorem e0_384 : Dc code 384 (.iload_n 3) 1 385 := ⟨at_384, rfl⟩
theorem e0_385 : Dc code 385 (.iload 8) 2 387 := ⟨at_385, rfl⟩
theorem e0_387 : Dc code 387 (.iload 9) 2 389 := ⟨at_387, rfl⟩
theorem e0_389 : Dc code 389 (.invokestatic 24) 3 392 := ⟨at_389, rfl⟩
theorem e0_392 : Dc code 392 (.ifCond .eq 31) 3 395 := ⟨at_392, rfl⟩
theorem e0_395 : Dc code 395 (.bipush 6) 2 397 := ⟨at_395, rfl⟩
theorem e0_397 : Dc code 397 (.aload 10) 2 399 := ⟨at_397, rfl⟩
theorem e0_399 : Dc code 399 (.aload 11) 2 401 := ⟨at_399, rfl⟩
theorem e0_401 : Dc code 401 (.aload 12) 2 403 := ⟨at_401, rfl⟩
theorem e0_403 : Dc code 403 (.iload 6) 2 405 := ⟨at_403, rfl⟩
theorem e0_405 : Dc code 405 (.iload 7) 2 407 := ⟨at_405, rfl⟩
theorem e0_407 : Dc code 407 (.iload_n 2) 1 408 := ⟨at_407, rfl⟩
theorem e0_408 : Dc code 408 (.iload_n 3) 1 409 := ⟨at_408, rfl⟩
theorem e0_409 : Dc code 409 (.iload 8) 2 411 := ⟨at_409, rfl⟩
theorem e0_411 : Dc code 411 (.iload 9) 2 413 := ⟨at_411, rfl⟩
theorem e0_413 : Dc code 413 (.invokestatic 24) 3 416 := ⟨at_413, rfl⟩
theorem e0_416 : Dc code 416 (.ifCond .eq 7) 3 419 := ⟨at_416, rfl⟩
theorem e0_419 : Dc code 419 (.iconst 1) 1 420 := ⟨at_419, rfl⟩
theorem e0_420 : Dc code 420 (.goto 4) 3 423 := ⟨at_420, rfl⟩
theorem e0_424 : Dc code 424 (.ireturn) 1 425 := ⟨at_424, rfl⟩
theorem e1_0 : Dc method_2_code 0 (.iload_n 0) 1 1 := ⟨by decide +kernel, rfl⟩
theorem e1_1 : Dc method_2_code 1 (.ldc 7) 2 3 := ⟨by decide +kernel, rfl⟩
theorem e1_3 : Dc method_2_code 3 (.iand) 1 4 := ⟨by decide +kernel, rfl⟩
theorem e1_4 : Dc method_2_code 4 (.iload_n 1) 1 5 := ⟨by decide +kernel, rfl⟩
theorem e1_5 : Dc method_2_code 5 (.irem) 1 6 := ⟨by decide +kernel, rfl⟩
theorem e1_6 : Dc method_2_code 6 (.ireturn) 1 7 := ⟨by decide +kernel, rfl⟩
theorem e2_0 : Dc method_3_code 0 (.iload_n 0) 1 1 := ⟨by decide +kernel, rfl⟩
theorem e2_1 : Dc method_3_code 1 (.iload_n 1) 1 2 := ⟨by decide +kernel, rfl⟩
theorem e2_2 : Dc method_3_code 2 (.imul) 1 3 := ⟨by decide +kernel, rfl⟩
theorem e2_3 : Dc method_3_code 3 (.iload_n 2) 1 4 := ⟨by decide +kernel, rfl⟩
theorem e2_4 : Dc method_3_code 4 (.iadd) 1 5 := ⟨by decide +kernel, rfl⟩
theorem e2_5 : Dc method_3_code 5 (.bipush 7) 2 7 := ⟨by decide +kernel, rfl⟩
theorem e2_7 : Dc method_3_code 7 (.irem) 1 8 := ⟨by decide +kernel, rfl⟩
theorem e2_8 : Dc method_3_code 8 (.ireturn) 1 9 := ⟨by decide +kernel, rfl⟩
theorem e3_0 : Dc prog_8_method_4_code 0 (.iload_n 3) 1 1 := ⟨by decide +kernel, rfl⟩
theorem e3_1 : Dc prog_8_method_4_code 1 (.istore 5) 2 3 := ⟨by decide +kernel, rfl⟩
theorem e3_3 : Dc prog_8_method_4_code 3 (.iload 4) 2 5 := ⟨by decide +kernel, rfl⟩
theorem e3_5 : Dc prog_8_method_4_code 5 (.istore 6) 2 7 := ⟨by decide +kernel, rfl⟩
theorem e3_7 : Dc prog_8_method_4_code 7 (.iload 5) 2 9 := ⟨by decide +kernel, rfl⟩
theorem e3_9 : Dc prog_8_method_4_code 9 (.iload 6) 2 11 := ⟨by decide +kernel, rfl⟩
theorem e3_11 : Dc prog_8_method_4_code 11 (.if_icmp .gt 79) 3 14 := ⟨by decide +kernel, rfl⟩
theorem e3_14 : Dc prog_8_method_4_code 14 (.aload_n 0) 1 15 := ⟨by decide +kernel, rfl⟩
theorem e3_15 : Dc prog_8_method_4_code 15 (.iload 5) 2 17 := ⟨by decide +kernel, rfl⟩
theorem e3_17 : Dc prog_8_method_4_code 17 (.iaload) 1 18 := ⟨by decide +kernel, rfl⟩
theorem e3_18 : Dc prog_8_method_4_code 18 (.istore 7) 2 20 := ⟨by decide +kernel, rfl⟩
theorem e3_20 : Dc prog_8_method_4_code 20 (.aload_n 0) 1 21 := ⟨by decide +kernel, rfl⟩
theorem e3_21 : Dc prog_8_method_4_code 21 (.iload 5) 2 23 := ⟨by decide +kernel, rfl⟩
theorem e3_23 : Dc prog_8_method_4_code 23 (.aload_n 0) 1 24 := ⟨by decide +kernel, rfl⟩
theorem e3_24 : Dc prog_8_method_4_code 24 (.iload 6) 2 26 := ⟨by decide +kernel, rfl⟩
theorem e3_26 : Dc prog_8_method_4_code 26 (.iaload) 1 27 := ⟨by decide +kernel, rfl⟩
theorem e3_27 : Dc prog_8_method_4_code 27 (.iastore) 1 28 := ⟨by decide +kernel, rfl⟩
theorem e3_28 : Dc prog_8_method_4_code 28 (.aload_n 0) 1 29 := ⟨by decide +kernel, rfl⟩
theorem e3_29 : Dc prog_8_method_4_code 29 (.iload 6) 2 31 := ⟨by decide +kernel, rfl⟩
theorem e3_31 : Dc prog_8_method_4_code 31 (.iload 7) 2 33 := ⟨by decide +kernel, rfl⟩
theorem e3_33 : Dc prog_8_method_4_code 33 (.iastore) 1 34 := ⟨by decide +kernel, rfl⟩
theorem e3_34 : Dc prog_8_method_4_code 34 (.aload_n 2) 1 35 := ⟨by decide +kernel, rfl⟩
theorem e3_35 : Dc prog_8_method_4_code 35 (.aload_n 0) 1 36 := ⟨by decide +kernel, rfl⟩
theorem e3_36 : Dc prog_8_method_4_code 36 (.iload 5) 2 38 := ⟨by decide +kernel, rfl⟩
theorem e3_38 : Dc prog_8_method_4_code 38 (.iaload) 1 39 := ⟨by decide +kernel, rfl⟩
theorem e3_39 : Dc prog_8_method_4_code 39 (.iload 5) 2 41 := ⟨by decide +kernel, rfl⟩
theorem e3_41 : Dc prog_8_method_4_code 41 (.iastore) 1 42 := ⟨by decide +kernel, rfl⟩
theorem e3_42 : Dc prog_8_method_4_code 42 (.aload_n 2) 1 43 := ⟨by decide +kernel, rfl⟩
theorem e3_43 : Dc prog_8_method_4_code 43 (.iload 7) 2 45 := ⟨by decide +kernel, rfl⟩
theorem e3_45 : Dc prog_8_method_4_code 45 (.iload 6) 2 47 := ⟨by decide +kernel, rfl⟩
theorem e3_47 : Dc prog_8_method_4_code 47 (.iastore) 1 48 := ⟨by decide +kernel, rfl⟩
theorem e3_48 : Dc prog_8_method_4_code 48 (.iload 6) 2 50 := ⟨by decide +kernel, rfl⟩
theorem e3_50 : Dc prog_8_method_4_code 50 (.iload 5) 2 52 := ⟨by decide +kernel, rfl⟩
theorem e3_52 : Dc prog_8_method_4_code 52 (.isub) 1 53 := ⟨by decide +kernel, rfl⟩
theorem e3_53 : Dc prog_8_method_4_code 53 (.iconst 2) 1 54 := ⟨by decide +kernel, rfl⟩
theorem e3_54 : Dc prog_8_method_4_code 54 (.if_icmp .lt 27) 3 57 := ⟨by decide +kernel, rfl⟩
theorem e3_57 : Dc prog_8_method_4_code 57 (.aload_n 1) 1 58 := ⟨by decide +kernel, rfl⟩
theorem e3_58 : Dc prog_8_method_4_code 58 (.iload 5) 2 60 := ⟨by decide +kernel, rfl⟩
theorem e3_60 : Dc prog_8_method_4_code 60 (.iaload) 1 61 := ⟨by decide +kernel, rfl⟩
theorem e3_61 : Dc prog_8_method_4_code 61 (.istore 8) 2 63 := ⟨by decide +kernel, rfl⟩
theorem e3_63 : Dc prog_8_method_4_code 63 (.aload_n 1) 1 64 := ⟨by decide +kernel, rfl⟩
theorem e3_64 : Dc prog_8_method_4_code 64 (.iload 5) 2 66 := ⟨by decide +kernel, rfl⟩
theorem e3_66 : Dc prog_8_method_4_code 66 (.aload_n 1) 1 67 := ⟨by decide +kernel, rfl⟩
theorem e3_67 : Dc prog_8_method_4_code 67 (.iload 6) 2 69 := ⟨by decide +kernel, rfl⟩
theorem e3_69 : Dc prog_8_method_4_code 69 (.iconst 1) 1 70 := ⟨by decide +kernel, rfl⟩
theorem e3_70 : Dc prog_8_method_4_code 70 (.isub) 1 71 := ⟨by decide +kernel, rfl⟩
theorem e3_71 : Dc prog_8_method_4_code 71 (.iaload) 1 72 := ⟨by decide +kernel, rfl⟩
theorem e3_72 : Dc prog_8_method_4_code 72 (.iastore) 1 73 := ⟨by decide +kernel, rfl⟩
theorem e3_73 : Dc prog_8_method_4_code 73 (.aload_n 1) 1 74 := ⟨by decide +kernel, rfl⟩
theorem e3_74 : Dc prog_8_method_4_code 74 (.iload 6) 2 76 := ⟨by decide +kernel, rfl⟩
theorem e3_76 : Dc prog_8_method_4_code 76 (.iconst 1) 1 77 := ⟨by decide +kernel, rfl⟩
theorem e3_77 : Dc prog_8_method_4_code 77 (.isub) 1 78 := ⟨by decide +kernel, rfl⟩
theorem e3_78 : Dc prog_8_method_4_code 78 (.iload 8) 2 80 := ⟨by decide +kernel, rfl⟩
theorem e3_80 : Dc prog_8_method_4_code 80 (.iastore) 1 81 := ⟨by decide +kernel, rfl⟩
theorem e3_81 : Dc prog_8_method_4_code 81 (.iinc 5 1) 3 84 := ⟨by decide +kernel, rfl⟩
theorem e3_84 : Dc prog_8_method_4_code 84 (.iinc 6 (-1)) 3 87 := ⟨by decide +kernel, rfl⟩
theorem e3_87 : Dc prog_8_method_4_code 87 (.goto (-80)) 3 90 := ⟨by decide +kernel, rfl⟩
theorem e3_90 : Dc prog_8_method_4_code 90 (.return_) 1 91 := ⟨by decide +kernel, rfl⟩
theorem e4_0 : Dc method_5_code 0 (.iload 8) 2 2 := ⟨by decide +kernel, rfl⟩
theorem e4_2 : Dc method_5_code 2 (.iload_n 0) 1 3 := ⟨by decide +kernel, rfl⟩
theorem e4_3 : Dc method_5_code 3 (.if_icmp .gt 13) 3 6 := ⟨by decide +kernel, rfl⟩
theorem e4_6 : Dc method_5_code 6 (.iload_n 0) 1 7 := ⟨by decide +kernel, rfl⟩
theorem e4_7 : Dc method_5_code 7 (.iload 9) 2 9 := ⟨by decide +kernel, rfl⟩
theorem e4_9 : Dc method_5_code 9 (.if_icmp .gt 7) 3 12 := ⟨by decide +kernel, rfl⟩
theorem e4_12 : Dc method_5_code 12 (.iconst 1) 1 13 := ⟨by decide +kernel, rfl⟩
theorem e4_13 : Dc method_5_code 13 (.goto 4) 3 16 := ⟨by decide +kernel, rfl⟩
theorem e4_16 : Dc method_5_code 16 (.iconst 0) 1 17 := ⟨by decide +kernel, rfl⟩
theorem e4_17 : Dc method_5_code 17 (.istore 10) 2 19 := ⟨by decide +kernel, rfl⟩
theorem e4_19 : Dc method_5_code 19 (.iload 10) 2 21 := ⟨by decide +kernel, rfl⟩
theorem e4_21 : Dc method_5_code 21 (.ifCond .eq 20) 3 24 := ⟨by decide +kernel, rfl⟩
theorem e4_24 : Dc method_5_code 24 (.iload 8) 2 26 := ⟨by decide +kernel, rfl⟩
theorem e4_26 : Dc method_5_code 26 (.iload 9) 2 28 := ⟨by decide +kernel, rfl⟩
theorem e4_28 : Dc method_5_code 28 (.iadd) 1 29 := ⟨by decide +kernel, rfl⟩
theorem e4_29 : Dc method_5_code 29 (.iload_n 0) 1 30 := ⟨by decide +kernel, rfl⟩
theorem e4_30 : Dc method_5_code 30 (.isub) 1 31 := ⟨by decide +kernel, rfl⟩
theorem e4_31 : Dc method_5_code 31 (.iload 4) 2 33 := ⟨by decide +kernel, rfl⟩
theorem e4_33 : Dc method_5_code 33 (.iload 5) 2 35 := ⟨by decide +kernel, rfl⟩
theorem e4_35 : Dc method_5_code 35 (.invokestatic 14) 3 38 := ⟨by decide +kernel, rfl⟩
theorem e4_38 : Dc method_5_code 38 (.goto 11) 3 41 := ⟨by decide +kernel, rfl⟩
theorem e4_41 : Dc method_5_code 41 (.iload_n 0) 1 42 := ⟨by decide +kernel, rfl⟩
theorem e4_42 : Dc method_5_code 42 (.iload 4) 2 44 := ⟨by decide +kernel, rfl⟩
theorem e4_44 : Dc method_5_code 44 (.iload 5) 2 46 := ⟨by decide +kernel, rfl⟩
theorem e4_46 : Dc method_5_code 46 (.invokestatic 14) 3 49 := ⟨by decide +kernel, rfl⟩
theorem e4_49 : Dc method_5_code 49 (.istore 11) 2 51 := ⟨by decide +kernel, rfl⟩
theorem e4_51 : Dc method_5_code 51 (.iload 8) 2 53 := ⟨by decide +kernel, rfl⟩
theorem e4_53 : Dc method_5_code 53 (.iload_n 0) 1 54 := ⟨by decide +kernel, rfl⟩
theorem e4_54 : Dc method_5_code 54 (.if_icmp .gt 13) 3 57 := ⟨by decide +kernel, rfl⟩
theorem e4_57 : Dc method_5_code 57 (.iload_n 0) 1 58 := ⟨by decide +kernel, rfl⟩
theorem e4_58 : Dc method_5_code 58 (.iload 9) 2 60 := ⟨by decide +kernel, rfl⟩
theorem e4_60 : Dc method_5_code 60 (.if_icmp .ge 7) 3 63 := ⟨by decide +kernel, rfl⟩
theorem e4_63 : Dc method_5_code 63 (.iconst 1) 1 64 := ⟨by decide +kernel, rfl⟩
theorem e4_64 : Dc method_5_code 64 (.goto 4) 3 67 := ⟨by decide +kernel, rfl⟩
theorem e4_67 : Dc method_5_code 67 (.iconst 0) 1 68 := ⟨by decide +kernel, rfl⟩
theorem e4_68 : Dc method_5_code 68 (.istore 12) 2 70 := ⟨by decide +kernel, rfl⟩
theorem e4_70 : Dc method_5_code 70 (.iload 12) 2 72 := ⟨by decide +kernel, rfl⟩
theorem e4_72 : Dc method_5_code 72 (.ifCond .eq 18) 3 75 := ⟨by decide +kernel, rfl⟩
theorem e4_75 : Dc method_5_code 75 (.iload 6) 2 77 := ⟨by decide +kernel, rfl⟩
theorem e4_77 : Dc method_5_code 77 (.iload 8) 2 79 := ⟨by decide +kernel, rfl⟩
theorem e4_79 : Dc method_5_code 79 (.iload 9) 2 81 := ⟨by decide +kernel, rfl⟩
theorem e4_81 : Dc method_5_code 81 (.iadd) 1 82 := ⟨by decide +kernel, rfl⟩
theorem e4_82 : Dc method_5_code 82 (.iconst 1) 1 83 := ⟨by decide +kernel, rfl⟩
theorem e4_83 : Dc method_5_code 83 (.isub) 1 84 := ⟨by decide +kernel, rfl⟩
theorem e4_84 : Dc method_5_code 84 (.iload_n 0) 1 85 := ⟨by decide +kernel, rfl⟩
theorem e4_85 : Dc method_5_code 85 (.isub) 1 86 := ⟨by decide +kernel, rfl⟩
theorem e4_86 : Dc method_5_code 86 (.iadd) 1 87 := ⟨by decide +kernel, rfl⟩
theorem e4_87 : Dc method_5_code 87 (.goto 7) 3 90 := ⟨by decide +kernel, rfl⟩
theorem e4_90 : Dc method_5_code 90 (.iload 6) 2 92 := ⟨by decide +kernel, rfl⟩
theorem e4_92 : Dc method_5_code 92 (.iload_n 0) 1 93 := ⟨by decide +kernel, rfl⟩
theorem e4_93 : Dc method_5_code 93 (.iadd) 1 94 := ⟨by decide +kernel, rfl⟩
theorem e4_94 : Dc method_5_code 94 (.istore 13) 2 96 := ⟨by decide +kernel, rfl⟩
theorem e4_96 : Dc method_5_code 96 (.aload_n 1) 1 97 := ⟨by decide +kernel, rfl⟩
theorem e4_97 : Dc method_5_code 97 (.iload_n 0) 1 98 := ⟨by decide +kernel, rfl⟩
theorem e4_98 : Dc method_5_code 98 (.iaload) 1 99 := ⟨by decide +kernel, rfl⟩
theorem e4_99 : Dc method_5_code 99 (.iload 11) 2 101 := ⟨by decide +kernel, rfl⟩
theorem e4_101 : Dc method_5_code 101 (.if_icmp .eq 5) 3 104 := ⟨by decide +kernel, rfl⟩
theorem e4_106 : Dc method_5_code 106 (.aload_n 2) 1 107 := ⟨by decide +kernel, rfl⟩
theorem e4_107 : Dc method_5_code 107 (.iload_n 0) 1 108 := ⟨by decide +kernel, rfl⟩
theorem e4_108 : Dc method_5_code 108 (.iaload) 1 109 := ⟨by decide +kernel, rfl⟩
theorem e4_109 : Dc method_5_code 109 (.iload 13) 2 111 := ⟨by decide +kernel, rfl⟩
theorem e4_111 : Dc method_5_code 111 (.if_icmp .eq 5) 3 114 := ⟨by decide +kernel, rfl⟩
theorem e4_116 : Dc method_5_code 116 (.aload_n 1) 1 117 := ⟨by decide +kernel, rfl⟩
theorem e4_117 : Dc method_5_code 117 (.iload_n 0) 1 118 := ⟨by decide +kernel, rfl⟩
theorem e4_118 : Dc method_5_code 118 (.iaload) 1 119 := ⟨by decide +kernel, rfl⟩
theorem e4_119 : Dc method_5_code 119 (.istore 14) 2 121 := ⟨by decide +kernel, rfl⟩
theorem e4_121 : Dc method_5_code 121 (.iload 10) 2 123 := ⟨by decide +kernel, rfl⟩
theorem e4_123 : Dc method_5_code 123 (.ifCond .eq 7) 3 126 := ⟨by decide +kernel, rfl⟩
theorem e4_126 : Dc method_5_code 126 (.iload_n 0) 1 127 := ⟨by decide +kernel, rfl⟩
theorem e4_127 : Dc method_5_code 127 (.goto 8) 3 130 := ⟨by decide +kernel, rfl⟩
theorem e4_130 : Dc method_5_code 130 (.iload 7) 2 132 := ⟨by decide +kernel, rfl⟩
theorem e4_132 : Dc method_5_code 132 (.iload 14) 2 134 := ⟨by decide +kernel, rfl⟩
theorem e4_134 : Dc method_5_code 134 (.iadd) 1 135 := ⟨by decide +kernel, rfl⟩
theorem e4_135 : Dc method_5_code 135 (.istore 15) 2 137 := ⟨by decide +kernel, rfl⟩
theorem e4_137 : Dc method_5_code 137 (.aload_n 3) 1 138 := ⟨by decide +kernel, rfl⟩
theorem e4_138 : Dc method_5_code 138 (.iload 14) 2 140 := ⟨by decide +kernel, rfl⟩
theorem e4_140 : Dc method_5_code 140 (.iaload) 1 141 := ⟨by decide +kernel, rfl⟩
theorem e4_141 : Dc method_5_code 141 (.iload 15) 2 143 := ⟨by decide +kernel, rfl⟩
theorem e4_143 : Dc method_5_code 143 (.if_icmp .ne 7) 3 146 := ⟨by decide +kernel, rfl⟩
theorem e4_146 : Dc method_5_code 146 (.iconst 1) 1 147 := ⟨by decide +kernel, rfl⟩
theorem e4_147 : Dc method_5_code 147 (.goto 4) 3 150 := ⟨by decide +kernel, rfl⟩
theorem e4_151 : Dc method_5_code 151 (.ireturn) 1 152 := ⟨by decide +kernel, rfl⟩
theorem pn_0 : plainName "com/example/stemcycle/stemcycle/EdgeLengthsReversePinLaw" = true := by first | (simp [plainName, overriddenIn]; done) | decide +kernel
theorem pn_1 : plainName "com/example/stemcycle/stemcycle/EdgeLengths" = true := by first | (simp [plainName, overriddenIn]; done) | decide +kernel
theorem hy_2 : "com/example/stemcycle/stemcycle/EdgeLengthsReversePinLaw" ≠ "java/lang/invoke/MethodHandle" ∧ "com/example/stemcycle/stemcycle/EdgeLengthsReversePinLaw" ≠ "java/lang/invoke/VarHandle" := by decide
theorem pd_3 : parseMethodDescriptor "(III)I" = some ⟨[.int, .int, .int], some .int⟩ := by decide +kernel
theorem pd_4 : parseMethodDescriptor "(II)I" = some ⟨[.int, .int], some .int⟩ := by decide +kernel
theorem hy_5 : "com/example/stemcycle/stemcycle/EdgeLengths" ≠ "java/lang/invoke/MethodHandle" ∧ "com/example/stemcycle/stemcycle/EdgeLengths" ≠ "java/lang/invoke/VarHandle" := by decide
theorem pd_6 : parseMethodDescriptor "([I[I[III)V" = some ⟨[(.array .int), (.array .int), (.array .int), .int, .int], none⟩ := by decide +kernel
theorem pd_7 : parseMethodDescriptor "(I[I[I[IIIIIII)Z" = some ⟨[.int, (.array .int), (.array .int), (.array .int), .int, .int, .int, .int, .int, .int], some .boolean⟩ := by decide +kernel
def Rv (vs cs : List Value) (f : Nat) (s : Int) (i : Nat) : Prop := cs.length = vs.length ∧ ∀ k : Nat, cs[k]? = if ((k : Int) < i ∨ s - i < k) ∧ f ≤ k ∧ (k : Int) ≤ s - f then vs[(s - k).toNat]? else vs[k]?
def Rs (vs cs : List Value) (f : Nat) (s : Int) : Prop := cs.length = vs.length ∧ ∀ k : Nat, cs[k]? = if f ≤ k ∧ (k : Int) ≤ s - f then vs[(s - k).toNat]? else vs[k]?
theorem own_rv0 (vs : List Value) (f : Nat) (s : Int) : Rv vs vs f s f := ⟨rfl, fun k => by rw [if_neg (by omega)]⟩
theorem own_same {vs cs : List Value} {f i k : Nat} {s : Int} (h : Rv vs cs f s i) (h1 : i ≤ k) (h2 : (k : Int) ≤ s - i) : cs[k]? = vs[k]? := by rw [h.2 k, if_neg (by omega)]
theorem own_swap {vs cs : List Value} {f i : Nat} {s : Int} {x y : Value} (h : Rv vs cs f s i) (hf : f ≤ i) (hij : (i : Int) < s - i) (hs : s - f < (vs.length : Int)) (hx : cs[i]? = some x) (hy : cs[(s - i).toNat]? = some y) : Rv vs ((cs.set i y).set (s - i).toNat x) f s (i + 1) := by
  have ex : vs[i]? = some x := by rw [← own_same h (Nat.le_refl _) (by omega)]; exact hx
  have ey : vs[(s - i).toNat]? = some y := by rw [← own_same h (by omega) (by omega)]; exact hy
  have li : i < cs.length := (List.getElem?_eq_some_iff.mp hx).1
  have lj : (s - i).toNat < cs.length := (List.getElem?_eq_some_iff.mp hy).1
  refine ⟨by simp [h.1], fun k => ?_⟩
  rw [List.getElem?_set]
  by_cases q : (s - i).toNat = k
  · subst q
    rw [if_pos rfl, if_pos (by simpa using lj), if_pos (by omega), show (s - ((s - i).toNat : Int)).toNat = i by omega, ex]
  · rw [if_neg q, List.getElem?_set]
    by_cases r : i = k
    · subst r
      rw [if_pos rfl, if_pos li, if_pos (by omega), ey]
    · rw [if_neg r, h.2 k]
      have e : (((k : Int) < i ∨ s - i < k) ∧ f ≤ k ∧ (k : Int) ≤ s - f) ↔ (((k : Int) < (i + 1 : Nat) ∨ s - (i + 1 : Nat) < k) ∧ f ≤ k ∧ (k : Int) ≤ s - f) := by omega
      simp only [e]
theorem own_skip {vs cs : List Value} {f i : Nat} {s : Int} (h : Rv vs cs f s i) (hij : s - i ≤ (i : Int)) : Rv vs cs f s (i + 1) := by
  refine ⟨h.1, fun k => ?_⟩
  rw [h.2 k]
  by_cases e : (((k : Int) < i ∨ s - i < k) ∧ f ≤ k ∧ (k : Int) ≤ s - f)
  · rw [if_pos e, if_pos (by omega)]
  · rw [if_neg e]
    by_cases d : (((k : Int) < (i + 1 : Nat) ∨ s - (i + 1 : Nat) < k) ∧ f ≤ k ∧ (k : Int) ≤ s - f)
    · rw [if_pos d, show (s - (k : Int)).toNat = k by omega]
    · rw [if_neg d]
theorem own_done {vs cs : List Value} {f i : Nat} {s : Int} (h : Rv vs cs f s i) (hi : s - i ≤ (i : Int)) : Rs vs cs f s := by
  refine ⟨h.1, fun k => ?_⟩
  rw [h.2 k]
  by_cases c : f ≤ k ∧ (k : Int) ≤ s - f
  · rw [if_pos c]
    by_cases d : (k : Int) < i ∨ s - i < k
    · rw [if_pos ⟨d, c⟩]
    · rw [if_neg (fun z => d z.1), show (s - (k : Int)).toNat = k by omega]
  · rw [if_neg c, if_neg (fun z => c z.2)]
theorem own_inc {x : Int32} {m : Int} (h : x.toInt = m) (l : -1000 ≤ m) (u : m ≤ 1000) : (x + 1).toInt = m + 1 := by
  have e := c_iadd x 1
  have k1 : (1 : Int32).toInt = 1 := rfl
  have l1 := Int32.le_toInt (x + 1)
  have l2 := Int32.toInt_lt (x + 1)
  rw [k1] at e
  omega
theorem own_dec {x : Int32} {m : Int} (h : x.toInt = m) (l : -1000 ≤ m) (u : m ≤ 1000) : (x + (-1)).toInt = m - 1 := by
  have e := c_iadd x (-1)
  have k1 : (-1 : Int32).toInt = -1 := rfl
  have l1 := Int32.le_toInt (x + (-1))
  have l2 := Int32.toInt_lt (x + (-1))
  rw [k1] at e
  omega
theorem own_sub {x y : Int32} {m n : Int} (h : x.toInt = m) (h2 : y.toInt = n) (l : -1000 ≤ m - n) (u : m - n ≤ 1000) : (x - y).toInt = m - n := by
  have e := c_isub x y
  have l1 := Int32.le_toInt (x - y)
  have l2 := Int32.toInt_lt (x - y)
  omega
theorem own_add {x y : Int32} {m n : Int} (h : x.toInt = m) (h2 : y.toInt = n) (l : -1000 ≤ m + n) (u : m + n ≤ 1000) : (x + y).toInt = m + n := by
  have e := c_iadd x y
  have l1 := Int32.le_toInt (x + y)
  have l2 := Int32.toInt_lt (x + y)
  omega
theorem own_one : (1 : Int32).toInt = 1 := rfl
theorem own_ofN {x : Int32} {k : Nat} (h : x.toInt = (k : Int)) : x = Int32.ofNat k := by
  apply Int32.toInt_inj.mp
  have := Int32.toInt_lt x
  rw [h, Int32.toInt_ofNat_of_lt (by omega)]
theorem own_some {vs : List Value} {k : Nat} (hi : ∀ v ∈ vs, ∃ x : Int32, v = .int x) (h : k < vs.length) : ∃ x : Int32, vs[k]? = some (.int x) := by
  obtain ⟨x, hx⟩ := hi _ (List.getElem_mem h)
  exact ⟨x, by rw [List.getElem?_eq_getElem h, hx]⟩
theorem own_rvi {vs cs : List Value} {f i k : Nat} {s : Int} (h : Rv vs cs f s i) (hi : ∀ v ∈ vs, ∃ x : Int32, v = .int x) (h1 : i ≤ k) (h2 : (k : Int) ≤ s - i) (h3 : k < vs.length) : ∃ x : Int32, cs[k]? = some (.int x) := by
  rw [own_same h h1 h2]; exact own_some hi h3
theorem own_swap2 {vs cs : List Value} {f i : Nat} {s : Int} {x y : Value} (h : Rv vs cs f s i) (hf : f ≤ i) (hij : (i : Int) ≤ s - i) (hs : s - f < (vs.length : Int)) (hx : cs[i]? = some x) (hy : cs[(s - i).toNat]? = some y) : Rv vs ((cs.set i y).set (s - i).toNat x) f s (i + 1) := by
  by_cases q : (i : Int) < s - i
  · exact own_swap h hf q hs hx hy
  · have e : (s - (i : Int)).toNat = i := by omega
    rw [e] at hy ⊢
    cases hx.symm.trans hy
    rw [set_same hx, set_same hx]
    exact own_skip h (by omega)
theorem own_sw_at {cs : List Value} {i j : Nat} {x y : Value} (hx : cs[i]? = some x) (hy : cs[j]? = some y) : ((cs.set i y).set j x)[i]? = some y := by
  have li := (List.getElem?_eq_some_iff.mp hx).1
  rw [List.getElem?_set]
  by_cases q : j = i
  · subst q
    cases hx.symm.trans hy
    simp [li]
  · rw [if_neg q]; simp [li]
abbrev HH (H : List GCell) (a c0 p0 : Nat) (cs es ps : List Value) : List GCell := ((H.set a (ar .int cs)).set c0 (ar .int es)).set p0 (ar .int ps)
section Heaps
variable {H : List GCell} {a c0 p0 : Nat} {cs es ps xs vs us ws : List Value}
theorem own_ha (h1 : a ≠ c0) (h2 : a ≠ p0) : (HH H a c0 p0 cs es ps).set a (ar .int xs) = HH H a c0 p0 xs es ps := by
  unfold HH
  rw [List.set_comm _ _ (Ne.symm h2), List.set_comm _ _ (Ne.symm h1), List.set_set]
theorem own_hc (h3 : c0 ≠ p0) : (HH H a c0 p0 cs es ps).set c0 (ar .int xs) = HH H a c0 p0 cs xs ps := by
  unfold HH
  rw [List.set_comm _ _ (Ne.symm h3), List.set_set]
theorem own_hp : (HH H a c0 p0 cs es ps).set p0 (ar .int xs) = HH H a c0 p0 cs es xs := by
  unfold HH
  rw [List.set_set]
theorem own_ga (h1 : a ≠ c0) (h2 : a ≠ p0) (ha : H[a]? = some (ar .int vs)) : (HH H a c0 p0 cs es ps)[a]? = some (ar .int cs) := get_ne (get_ne (get_eq ha) (Ne.symm h1)) (Ne.symm h2)
theorem own_gc (h1 : a ≠ c0) (h3 : c0 ≠ p0) (hc : H[c0]? = some (ar .int us)) : (HH H a c0 p0 cs es ps)[c0]? = some (ar .int es) := get_ne (get_eq (get_ne hc h1)) (Ne.symm h3)
theorem own_gp (h2 : a ≠ p0) (h3 : c0 ≠ p0) (hp : H[p0]? = some (ar .int ws)) : (HH H a c0 p0 cs es ps)[p0]? = some (ar .int ps) := get_eq (get_ne (get_ne hp h2) h3)
theorem own_h0 (h1 : a ≠ c0) (h2 : a ≠ p0) (h3 : c0 ≠ p0) (ha : H[a]? = some (ar .int vs)) (hc : H[c0]? = some (ar .int us)) (hp : H[p0]? = some (ar .int ws)) : HH H a c0 p0 vs us ws = H := by
  unfold HH
  rw [set_same ha, set_same hc, set_same hp]
end Heaps
abbrev N2I (n : Nat) : Value := .int (Int32.ofNat n)
def Pv (cy : Nat → Nat) (ws ps : List Value) (f : Nat) (s : Int) (i : Nat) : Prop := ps.length = ws.length ∧ (∀ k : Nat, ((k : Int) < i ∨ s - i < k) → f ≤ k → (k : Int) ≤ s - f → ps[cy (s - k).toNat]? = some (N2I k)) ∧ ∀ y : Nat, (∀ k : Nat, ((k : Int) < i ∨ s - i < k) → f ≤ k → (k : Int) ≤ s - f → cy (s - k).toNat ≠ y) → ps[y]? = ws[y]?
theorem own_pv0 (cy : Nat → Nat) (ws : List Value) (f : Nat) (s : Int) : Pv cy ws ws f s f := ⟨rfl, fun k h1 h2 h3 => by omega, fun y _ => rfl⟩
theorem own_pv1 {cy : Nat → Nat} {ws ps : List Value} {f i : Nat} {s : Int} {ii jj : Int32} (ei : ii = Int32.ofNat i) (ej : jj = Int32.ofNat (s - i).toNat) (h : Pv cy ws ps f s i) (hf : f ≤ i) (hij : (i : Int) ≤ s - i) (hs : s - f < 7) (hl : ws.length = 7) (hcy : ∀ k, cy k < 7) (hinj : ∀ k l, k < 7 → l < 7 → cy k = cy l → k = l) : Pv cy ws ((ps.set (cy (s - i).toNat) (.int ii)).set (cy i) (.int jj)) f s (i + 1) := by
  subst ei ej
  obtain ⟨h1, h2, h3⟩ := h
  have e0 : (s - ((s - (i : Int)).toNat : Int)).toNat = i := by omega
  refine ⟨by simp [h1], fun k a1 a2 a3 => ?_, fun y hy => ?_⟩
  · rw [List.getElem?_set]
    by_cases q : cy i = cy (s - k).toNat
    · have e := hinj _ _ (by omega) (by omega) q
      rw [if_pos q, if_pos (by rw [List.length_set, h1, hl]; exact hcy _), show (s - (i : Int)).toNat = k by omega]
    · rw [if_neg q, List.getElem?_set]
      by_cases r : cy (s - i).toNat = cy (s - k).toNat
      · have e := hinj _ _ (by omega) (by omega) r
        rw [if_pos r, if_pos (by rw [h1, hl]; exact hcy _), show i = k by omega]
      · rw [if_neg r]
        refine h2 k ?_ a2 a3
        have n1 : (s - (k : Int)).toNat ≠ i := fun z => q (by rw [z])
        have n2 : (s - (k : Int)).toNat ≠ (s - (i : Int)).toNat := fun z => r (by rw [z])
        omega
  · have n1 := hy i (by omega) hf (by omega)
    have n2 := hy (s - (i : Int)).toNat (by omega) (by omega) (by omega)
    rw [e0] at n2
    rw [List.getElem?_set_ne n2, List.getElem?_set_ne n1]
    exact h3 y fun k b1 b2 b3 => hy k (by omega) b2 b3
def Ps (cy : Nat → Nat) (ws ps : List Value) (f : Nat) (s : Int) : Prop := (∀ k : Nat, f ≤ k → (k : Int) ≤ s - f → ps[cy (s - k).toNat]? = some (N2I k)) ∧ ∀ y : Nat, (∀ k : Nat, f ≤ k → (k : Int) ≤ s - f → cy (s - k).toNat ≠ y) → ps[y]? = ws[y]?
theorem own_pdone {cy : Nat → Nat} {ws ps : List Value} {f i : Nat} {s : Int} (h : Pv cy ws ps f s i) (hi : s - i < (i : Int)) : Ps cy ws ps f s := ⟨fun k a b => h.2.1 k (by omega) a b, fun y hy => h.2.2 y fun k _ b c => hy k b c⟩
theorem own_nI {n : Nat} (h : n < 1000) : (Int32.ofNat n).toInt = (n : Int) := Int32.toInt_ofNat_of_lt (by omega)
theorem own_mul {x y : Int32} {m n : Nat} (h : x.toInt = (m : Int)) (h2 : y.toInt = (n : Int)) (u : m * n ≤ 1000) : (x * y).toInt = ((m * n : Nat) : Int) := by
  have e := c_imul x y
  have l1 := Int32.le_toInt (x * y)
  have l2 := Int32.toInt_lt (x * y)
  rw [h, h2] at e
  have e3 : (m : Int) * (n : Int) = ((m * n : Nat) : Int) := by simp
  rw [e3] at e
  omega
def own_city (m s k : Nat) : Nat := (k * m + s) % 7
theorem own_city7 (m s k : Nat) : own_city m s k < 7 := Nat.mod_lt _ (by decide)
theorem own_cinj {m s : Nat} (h1 : 1 ≤ m) (h2 : m ≤ 6) (k l : Nat) (hk : k < 7) (hl : l < 7) (h : own_city m s k = own_city m s l) : k = l := by
  have hm : m = 1 ∨ m = 2 ∨ m = 3 ∨ m = 4 ∨ m = 5 ∨ m = 6 := by omega
  unfold own_city at h
  rcases hm with rfl | rfl | rfl | rfl | rfl | rfl <;> omega
abbrev own_cv (m s : Nat) : List Value := [N2I (own_city m s 0), N2I (own_city m s 1), N2I (own_city m s 2), N2I (own_city m s 3), N2I (own_city m s 4), N2I (own_city m s 5), N2I (own_city m s 6)]
theorem own_cv_at (m s : Nat) {k : Nat} (h : k < 7) : (own_cv m s)[k]? = some (N2I (own_city m s k)) := by
  have h1 : k = 0 ∨ k = 1 ∨ k = 2 ∨ k = 3 ∨ k = 4 ∨ k = 5 ∨ k = 6 := by omega
  rcases h1 with rfl | rfl | rfl | rfl | rfl | rfl | rfl <;> rfl
abbrev own_seq (c : Int32) : List Value := [.int c, .int (c + 1), .int (c + 2), .int (c + 3), .int (c + 4), .int (c + 5), .int (c + 6)]
theorem own_seq_at (c : Int32) {m : Nat} (h : m < 7) : (own_seq c)[m]? = some (.int (c + Int32.ofNat m)) := by
  have h1 : m = 0 ∨ m = 1 ∨ m = 2 ∨ m = 3 ∨ m = 4 ∨ m = 5 ∨ m = 6 := by omega
  rcases h1 with rfl | rfl | rfl | rfl | rfl | rfl | rfl
  · show some (Value.int c) = some (Value.int (c + 0)); rw [Int32.add_zero]
  all_goals rfl
theorem own_seq_i (c : Int32) : ∀ v ∈ own_seq c, ∃ x : Int32, v = .int x := by
  intro v hv
  simp only [own_seq, List.mem_cons, List.not_mem_nil, or_false] at hv
  rcases hv with rfl | rfl | rfl | rfl | rfl | rfl | rfl <;> exact ⟨_, rfl⟩
theorem own_c_at {m s : Nat} {cs : List Value} {f t k : Nat} (h : Rs (own_cv m s) cs f (f + t : Int)) (hk : k < 7) (ht : t < 7) (hft : f ≤ t) : cs[k]? = some (N2I (own_city m s (if f ≤ k ∧ k ≤ t then f + t - k else k))) := by
  rw [h.2 k]
  by_cases q : f ≤ k ∧ k ≤ t
  · rw [if_pos q, if_pos (by omega), show ((f + t : Int) - k).toNat = f + t - k by omega]; exact own_cv_at m s (by omega)
  · rw [if_neg q, if_neg (by omega)]; exact own_cv_at m s hk
theorem own_e_at {c : Int32} {cs : List Value} {f t k : Nat} (h : Rs (own_seq c) cs f (f + t - 1 : Int)) (hk : k < 7) (ht : t < 7) (hft : f ≤ t) : cs[k]? = some (.int (c + Int32.ofNat (if f ≤ k ∧ k < t then f + t - 1 - k else k))) := by
  rw [h.2 k]
  by_cases q : f ≤ k ∧ k < t
  · rw [if_pos q, if_pos (by omega), show ((f + t - 1 : Int) - k).toNat = f + t - 1 - k by omega]; exact own_seq_at c (by omega)
  · rw [if_neg q, if_neg (by omega)]; exact own_seq_at c hk
theorem own_p_in {m s : Nat} {ws ps : List Value} {f t k : Nat} (h : Ps (own_city m s) ws ps f (f + t : Int)) (hk : f ≤ k ∧ k ≤ t) : ps[own_city m s (f + t - k)]? = some (N2I k) := by
  have := h.1 k hk.1 (by omega)
  rwa [show ((f + t : Int) - k).toNat = f + t - k by omega] at this
theorem own_p_out {m s : Nat} {q : Int32} {ps : List Value} {f t k : Nat} (h : Ps (own_city m s) (own_seq q) ps f (f + t : Int)) (h1 : 1 ≤ m) (h6 : m ≤ 6) (h7 : k < 7) (ht : t < 7) (hk : ¬ (f ≤ k ∧ k ≤ t)) : ps[own_city m s k]? = some (.int (q + Int32.ofNat (own_city m s k))) := by
  rw [h.2 _ fun j a b e => ?_]
  · exact own_seq_at q (own_city7 m s k)
  · have := own_cinj h1 h6 _ _ (by omega) h7 e
    omega

set_option maxRecDepth 65536 in
set_option maxHeartbeats 4000000 in
theorem c_mod {l : Launch} {Z : State} {a0 : Array Value} {b : Nat} (hw : ∀ d ∈ tables_1, d.before a0 Z = true) {H : List GCell} {x n : Int32} {bd : Nat} (hn : n.toInt = (bd : Int)) (h0 : 0 < bd) :
    Met l Z a0 b (⟨"com/example/stemcycle/stemcycle/EdgeLengthsReversePinLaw", "mod", "(II)I"⟩ : MethodName) method_2_code 2 (some .int) ({ frames := 0, cells := 0, slots := 0, locals := 0 } : Room) [.int x, .int n] H (fun v H' => ∃ u, v = some u ∧ (∃ z : Int32, u = .int z ∧ (∃ k : Nat, z.toInt = (k : Int) ∧ k < bd) ∧ H' = H)) := by
  refine Met.of_go hw (plainFor_of_name pn_0) (L0 := [.val (.int x), .val (.int n)]) rfl ?_
  intro p e s m args below meth c C
  refine go_iloadN e1_0 rfl ?_
  refine go_ldc e1_1 (wd 4 rfl) ?_
  refine go_iand e1_3 ?_
  refine go_iloadN e1_4 rfl ?_
  refine go_irem e1_5 (fun z => by rw [z] at hn; have : (0 : Int32).toInt = 0 := rfl; omega) ?_
  refine go_ireturn e1_6 rfl (by decide) (by decide) ?_
  exact ⟨_, rfl, _, rfl, by
      have h := (c_iremV (x &&& 2147483647) n).1 (c_and _ _ (by decide)).1 (by omega)
      exact ⟨((x &&& 2147483647) % n).toInt.toNat, by omega, by omega⟩, rfl⟩
set_option maxRecDepth 65536 in
set_option maxHeartbeats 4000000 in
theorem c_city {l : Launch} {Z : State} {a0 : Array Value} {b : Nat} (hw : ∀ d ∈ tables_1, d.before a0 Z = true) {H : List GCell} {kk mm ss : Int32} {k m0 s0 : Nat} (hk : kk.toInt = (k : Int)) (hm : mm.toInt = (m0 : Int)) (hs : ss.toInt = (s0 : Int)) (h1 : k ≤ 20) (h2 : m0 ≤ 20) (h3 : s0 ≤ 20) :
    Met l Z a0 b (⟨"com/example/stemcycle/stemcycle/EdgeLengthsReversePinLaw", "city0", "(III)I"⟩ : MethodName) method_3_code 3 (some .int) ({ frames := 0, cells := 0, slots := 0, locals := 0 } : Room) [.int kk, .int mm, .int ss] H (fun v H' => ∃ u, v = some u ∧ (u = N2I (own_city m0 s0 k) ∧ H' = H)) := by
  have hb : k * m0 ≤ 400 := Nat.le_trans (Nat.mul_le_mul h1 h2) (by decide)
  have e1 := own_mul hk hm (by omega)
  have e2 := own_add e1 hs (by omega) (by omega)
  have e3 := (c_irem (kk * mm + ss) 7 7 (by decide)).1 (by omega)
  have hres : (kk * mm + ss) % 7 = Int32.ofNat (own_city m0 s0 k) := own_ofN (by rw [e3, e2, own_city]; omega)
  refine Met.of_go hw (plainFor_of_name pn_0) (L0 := [.val (.int kk), .val (.int mm), .val (.int ss)]) rfl ?_
  intro p e s m args below meth c C
  refine go_iloadN e2_0 rfl ?_
  refine go_iloadN e2_1 rfl ?_
  refine go_imul e2_2 ?_
  refine go_iloadN e2_3 rfl ?_
  refine go_iadd e2_4 ?_
  refine go_bipush e2_5 (x := 7) rfl ?_
  refine go_irem e2_7 (by decide) ?_
  refine go_ireturn e2_8 rfl (by decide) (by decide) ?_
  exact ⟨_, rfl, congrArg Value.int hres, rfl⟩
set_option maxRecDepth 65536 in
set_option maxHeartbeats 4000000 in
theorem c_rev {l : Launch} {Z : State} {a0 : Array Value} {b : Nat} (hw : ∀ d ∈ tables_1, d.before a0 Z = true) {H : List GCell} {a c0 p0 f t : Nat} {ff tt : Int32} {vs us ws : List Value} {cy : Nat → Nat} (ha : H[a]? = some (ar .int vs)) (hc : H[c0]? = some (ar .int us)) (hp : H[p0]? = some (ar .int ws)) (hac : a ≠ c0) (hap : a ≠ p0) (hcp : c0 ≠ p0) (hf : ff.toInt = (f : Int)) (ht : tt.toInt = (t : Int)) (hft : f ≤ t) (ht7 : t < 7) (hvl : vs.length = 7) (hul : us.length = 7) (hwl : ws.length = 7) (hv : ∀ k, k < 7 → vs[k]? = some (N2I (cy k))) (hui : ∀ v ∈ us, ∃ x : Int32, v = .int x) (hcy : ∀ k, cy k < 7) (hinj : ∀ k l, k < 7 → l < 7 → cy k = cy l → k = l) :
    Met l Z a0 b (⟨"com/example/stemcycle/stemcycle/EdgeLengths", "reverse", "([I[I[III)V"⟩ : MethodName) prog_8_method_4_code 9 none ({ frames := 0, cells := 0, slots := 0, locals := 0 } : Room) [.ref a, .ref c0, .ref p0, .int ff, .int tt] H (fun v H' => v = none ∧ ∃ cs es ps, H' = HH H a c0 p0 cs es ps ∧ Rs vs cs f (f + t : Int) ∧ Rs us es f (f + t - 1 : Int) ∧ Ps cy ws ps f (f + t : Int)) := by
  refine Met.of_go hw (plainFor_of_name pn_1) (L0 := [.val (.ref a), .val (.ref c0), .val (.ref p0), .val (.int ff), .val (.int tt), .unset, .unset, .unset, .unset]) rfl ?_
  intro p e s m args below meth c C
  have loop : ∀ (r i : Nat) (ii jj : Int32) (cs es ps : List Value) (o7 o8 : Slot), (f + t : Int) - 2 * i + 1 ≤ r → f ≤ i → ii.toInt = (i : Int) → jj.toInt = (f + t : Int) - i → Rv vs cs f (f + t : Int) i → Rv us es f (f + t - 1 : Int) i → Pv cy ws ps f (f + t : Int) i → oneS o7 = true → oneS o8 = true → Go C 7 [.val (.ref a), .val (.ref c0), .val (.ref p0), .val (.int ff), .val (.int tt), .val (.int ii), .val (.int jj), o7, o8] [] (HH H a c0 p0 cs es ps) 0 0 := by
    intro r
    induction r with
    | zero =>
      intro i ii jj cs es ps o7 o8 hr hfi hii hjj hcs hes hps ho7 ho8
      refine go_iload e3_7 rfl ?_
      refine go_iload e3_9 rfl ?_
      refine go_icgt e3_11 (tg := 90) (by decide) ?_ ?_
      · intro c11
        refine go_return e3_90 rfl (by decide) (by decide) ?_
        exact ⟨rfl, cs, es, ps, rfl, own_done hcs (by omega), own_done hes (by omega), own_pdone hps (by omega)⟩
      · intro c11
        exfalso; omega
    | succ r ih =>
      intro i ii jj cs es ps o7 o8 hr hfi hii hjj hcs hes hps ho7 ho8
      refine go_iload e3_7 rfl ?_
      refine go_iload e3_9 rfl ?_
      refine go_icgt e3_11 (tg := 90) (by decide) ?_ ?_
      · intro c11
        refine go_return e3_90 rfl (by decide) (by decide) ?_
        exact ⟨rfl, cs, es, ps, rfl, own_done hcs (by omega), own_done hes (by omega), own_pdone hps (by omega)⟩
      · intro c11
        have hij : (i : Int) ≤ (f + t : Int) - i := by omega
        have hx : cs[i]? = some (N2I (cy i)) := by rw [own_same hcs (Nat.le_refl _) hij]; exact hv i (by omega)
        have hy : cs[((f + t : Int) - i).toNat]? = some (N2I (cy ((f + t : Int) - i).toNat)) := by rw [own_same hcs (by omega) (by omega)]; exact hv _ (by omega)
        have hcyi := own_nI (Nat.lt_trans (hcy i) (by decide : 7 < 1000))
        have hcyj := own_nI (Nat.lt_trans (hcy ((f + t : Int) - i).toNat) (by decide : 7 < 1000))
        have eii : ii = Int32.ofNat i := own_ofN hii
        have ejj : jj = Int32.ofNat ((f + t : Int) - i).toNat := own_ofN (by rw [hjj]; omega)
        refine go_aloadN e3_14 rfl rfl ?_
        refine go_iload e3_15 rfl ?_
        refine go_iaload e3_17 (own_ga hac hap ha) (k := i) hii hx ?_
        refine go_istore_7 e3_18 ho7 ?_
        refine go_aloadN e3_20 rfl rfl ?_
        refine go_iload e3_21 rfl ?_
        refine go_aloadN e3_23 rfl rfl ?_
        refine go_iload e3_24 rfl ?_
        refine go_iaload e3_26 (own_ga hac hap ha) (k := ((f + t : Int) - i).toNat) (by rw [hjj]; omega) hy ?_
        refine go_iastore e3_27 (own_ga hac hap ha) (k := i) hii (List.getElem?_eq_some_iff.mp hx).1 ?_
        rw [own_ha hac hap]
        refine go_aloadN e3_28 rfl rfl ?_
        refine go_iload e3_29 rfl ?_
        refine go_iload e3_31 rfl ?_
        refine go_iastore e3_33 (own_ga hac hap ha) (k := ((f + t : Int) - i).toNat) (by rw [hjj]; omega) (by rw [List.length_set]; exact (List.getElem?_eq_some_iff.mp hy).1) ?_
        rw [own_ha hac hap]
        refine go_aloadN e3_34 rfl rfl ?_
        refine go_aloadN e3_35 rfl rfl ?_
        refine go_iload e3_36 rfl ?_
        refine go_iaload e3_38 (own_ga hac hap ha) (k := i) hii (own_sw_at hx hy) ?_
        refine go_iload e3_39 rfl ?_
        refine go_iastore e3_41 (own_gp hap hcp hp) (k := cy ((f + t : Int) - i).toNat) hcyj (by rw [hps.1, hwl]; exact hcy _) ?_
        rw [own_hp]
        refine go_aloadN e3_42 rfl rfl ?_
        refine go_iload e3_43 rfl ?_
        refine go_iload e3_45 rfl ?_
        refine go_iastore e3_47 (own_gp hap hcp hp) (k := cy i) hcyi (by rw [List.length_set, hps.1, hwl]; exact hcy _) ?_
        rw [own_hp]
        refine go_iload e3_48 rfl ?_
        refine go_iload e3_50 rfl ?_
        refine go_isub e3_52 ?_
        refine go_iconst e3_53 (x := 2) rfl ?_
        refine go_iclt e3_54 (tg := 81) (by decide) ?_ ?_
        · intro c54
          have hd2 : ((f + t - 1 : Int) - i) ≤ (i : Int) := by have := own_sub hjj hii (by omega) (by omega); rw [this] at c54; have k2 : (2 : Int32).toInt = 2 := rfl; omega
          refine go_iinc_5 e3_81 (z := 1) rfl ?_
          refine go_iinc_6 e3_84 (z := (-1)) rfl ?_
          refine go_goto e3_87 (tg := 7) (by decide) ?_
          first | exact ih (i + 1) (ii + 1) (jj + (-1)) _ _ _ _ _ (by omega) (by omega) (by rw [own_inc hii (by omega) (by omega)]; omega) (by rw [own_dec hjj (by omega) (by omega)]; omega) (own_swap2 hcs hfi hij (by omega) hx hy) (own_skip hes hd2) (own_pv1 eii ejj hps hfi hij (by omega) hwl hcy hinj) rfl (by first | rfl | assumption) | exact ih (i + 1) (ii + 1) (jj + (-1)) _ _ _ _ _ (by omega) (by omega) (by rw [own_inc hii (by omega) (by omega)]; omega) (by rw [own_dec hjj (by omega) (by omega)]; omega) (own_swap2 hcs hfi hij (by omega) hx hy) (own_swap hes hfi hd2 (by omega) hex hey) (own_pv1 eii ejj hps hfi hij (by omega) hwl hcy hinj) rfl (by first | rfl | assumption)
        · intro c54
          have hd2 : (i : Int) < ((f + t - 1 : Int) - i) := by have := own_sub hjj hii (by omega) (by omega); rw [this] at c54; have k2 : (2 : Int32).toInt = 2 := rfl; omega
          obtain ⟨ex, hex⟩ := own_rvi hes hui (Nat.le_refl _) (by omega) (by omega)
          obtain ⟨ey, hey⟩ := own_rvi (k := ((f + t - 1 : Int) - i).toNat) hes hui (by omega) (by omega) (by omega)
          have hj1 : (jj - 1).toInt = (((f + t - 1 : Int) - i).toNat : Int) := by rw [own_sub hjj own_one (by omega) (by omega)]; omega
          have hiN := hii
          refine go_aloadN e3_57 rfl rfl ?_
          refine go_iload e3_58 rfl ?_
          refine go_iaload e3_60 (own_gc hac hcp hc) (k := i) hiN hex ?_
          refine go_istore_8 e3_61 ho8 ?_
          refine go_aloadN e3_63 rfl rfl ?_
          refine go_iload e3_64 rfl ?_
          refine go_aloadN e3_66 rfl rfl ?_
          refine go_iload e3_67 rfl ?_
          refine go_iconst e3_69 (x := 1) rfl ?_
          refine go_isub e3_70 ?_
          refine go_iaload e3_71 (own_gc hac hcp hc) (k := ((f + t - 1 : Int) - i).toNat) hj1 hey ?_
          refine go_iastore e3_72 (own_gc hac hcp hc) (k := i) hiN (List.getElem?_eq_some_iff.mp hex).1 ?_
          rw [own_hc hcp]
          refine go_aloadN e3_73 rfl rfl ?_
          refine go_iload e3_74 rfl ?_
          refine go_iconst e3_76 (x := 1) rfl ?_
          refine go_isub e3_77 ?_
          refine go_iload e3_78 rfl ?_
          refine go_iastore e3_80 (own_gc hac hcp hc) (k := ((f + t - 1 : Int) - i).toNat) hj1 (by rw [List.length_set]; exact (List.getElem?_eq_some_iff.mp hey).1) ?_
          rw [own_hc hcp]
          refine go_iinc_5 e3_81 (z := 1) rfl ?_
          refine go_iinc_6 e3_84 (z := (-1)) rfl ?_
          refine go_goto e3_87 (tg := 7) (by decide) ?_
          first | exact ih (i + 1) (ii + 1) (jj + (-1)) _ _ _ _ _ (by omega) (by omega) (by rw [own_inc hii (by omega) (by omega)]; omega) (by rw [own_dec hjj (by omega) (by omega)]; omega) (own_swap2 hcs hfi hij (by omega) hx hy) (own_skip hes hd2) (own_pv1 eii ejj hps hfi hij (by omega) hwl hcy hinj) rfl (by first | rfl | assumption) | exact ih (i + 1) (ii + 1) (jj + (-1)) _ _ _ _ _ (by omega) (by omega) (by rw [own_inc hii (by omega) (by omega)]; omega) (by rw [own_dec hjj (by omega) (by omega)]; omega) (own_swap2 hcs hfi hij (by omega) hx hy) (own_swap hes hfi hd2 (by omega) hex hey) (own_pv1 eii ejj hps hfi hij (by omega) hwl hcy hinj) rfl (by first | rfl | assumption)
  refine go_iloadN e3_0 rfl ?_
  refine go_istore_5 e3_1 rfl ?_
  refine go_iload e3_3 rfl ?_
  refine go_istore_6 e3_5 rfl ?_
  have hL := loop (f + t + 3) f ff tt vs us ws .unset .unset (by omega) (by omega) hf (by rw [ht]; omega) (own_rv0 vs f _) (own_rv0 us f _) (own_pv0 cy ws f _) rfl rfl
  rw [own_h0 hac hap hcp ha hc hp] at hL
  exact hL
set_option maxRecDepth 65536 in
set_option maxHeartbeats 4000000 in
theorem c_at {l : Launch} {Z : State} {a0 : Array Value} {b : Nat} (hw : ∀ d ∈ tables_1, d.before a0 Z = true) {H : List GCell} {a c0 p0 k f t m0 s0 : Nat} {kk mm ss e1 q1 ff tt : Int32} {cs es ps : List Value} (ha : H[a]? = some (ar .int cs)) (hc : H[c0]? = some (ar .int es)) (hp : H[p0]? = some (ar .int ps)) (hk : kk.toInt = (k : Int)) (hm : mm.toInt = (m0 : Int)) (hs : ss.toInt = (s0 : Int)) (hf : ff.toInt = (f : Int)) (ht : tt.toInt = (t : Int)) (hft : f ≤ t) (ht7 : t < 7) (hk7 : k < 7) (hm6 : m0 ≤ 6) (hs7 : s0 < 7) (hx : cs[k]? = some (N2I (own_city m0 s0 (if f ≤ k ∧ k ≤ t then f + t - k else k)))) (hy : es[k]? = some (.int (e1 + Int32.ofNat (if f ≤ k ∧ k < t then f + t - 1 - k else k)))) (hpi : (f ≤ k ∧ k ≤ t) → ps[own_city m0 s0 (f + t - k)]? = some (N2I k)) (hpo : ¬ (f ≤ k ∧ k ≤ t) → ps[own_city m0 s0 k]? = some (.int (q1 + Int32.ofNat (own_city m0 s0 k)))) :
    Met l Z a0 b (⟨"com/example/stemcycle/stemcycle/EdgeLengthsReversePinLaw", "at", "(I[I[I[IIIIIII)Z"⟩ : MethodName) method_5_code 16 (some .boolean) ({ frames := 1, cells := 0, slots := 0, locals := 16 } : Room) [.int kk, .ref a, .ref c0, .ref p0, .int mm, .int ss, .int e1, .int q1, .int ff, .int tt] H (fun v H' => ∃ u, v = some u ∧ (u = .int 1 ∧ H' = H)) := by
  refine Met.of_go hw (plainFor_of_name pn_0) (L0 := [.val (.int kk), .val (.ref a), .val (.ref c0), .val (.ref p0), .val (.int mm), .val (.int ss), .val (.int e1), .val (.int q1), .val (.int ff), .val (.int tt), .unset, .unset, .unset, .unset, .unset, .unset]) rfl ?_
  intro p e s m args below meth c C
  refine go_iload e4_0 rfl ?_
  refine go_iloadN e4_2 rfl ?_
  refine go_icgt e4_3 (tg := 16) (by decide) ?_ ?_
  · intro c3
    refine go_iconst e4_16 (x := 0) rfl ?_
    refine go_istore_10 e4_17 rfl ?_
    refine go_iload e4_19 rfl ?_
    refine go_ifeqY e4_21 (tg := 41) (by decide) (by decide) ?_
    refine go_iloadN e4_41 rfl ?_
    refine go_iload e4_42 rfl ?_
    refine go_iload e4_44 rfl ?_
    refine go_static_3 e4_46 (wd 6 rfl) (wd 7 rfl) (wd 8 rfl) (wd 2 rfl) hy_2 pd_3 rfl (c_city hw (k := k) hk hm hs (by omega) (by omega) (by omega)) rfl 0 rfl (by decide) (by decide) (by decide) (by decide) ?_
    rintro _ _ ⟨rfl, rfl⟩
    refine go_istore_11 e4_49 rfl ?_
    refine go_iload e4_51 rfl ?_
    refine go_iloadN e4_53 rfl ?_
    refine go_icgtY e4_54 (tg := 67) (by decide) c3 ?_
    refine go_iconst e4_67 (x := 0) rfl ?_
    refine go_istore_12 e4_68 rfl ?_
    refine go_iload e4_70 rfl ?_
    refine go_ifeqY e4_72 (tg := 90) (by decide) (by decide) ?_
    refine go_iload e4_90 rfl ?_
    refine go_iloadN e4_92 rfl ?_
    refine go_iadd e4_93 ?_
    refine go_istore_13 e4_94 rfl ?_
    refine go_aloadN e4_96 rfl rfl ?_
    refine go_iloadN e4_97 rfl ?_
    refine go_iaload e4_98 ha (k := k) hk (by rw [hx, if_neg (by omega)]) ?_
    refine go_iload e4_99 rfl ?_
    refine go_iceqY e4_101 (tg := 106) (by decide) rfl ?_
    refine go_aloadN e4_106 rfl rfl ?_
    refine go_iloadN e4_107 rfl ?_
    refine go_iaload e4_108 hc (k := k) hk (by rw [hy, if_neg (by omega)]) ?_
    refine go_iload e4_109 rfl ?_
    refine go_iceqY e4_111 (tg := 116) (by decide) (by rw [own_ofN hk]) ?_
    refine go_aloadN e4_116 rfl rfl ?_
    refine go_iloadN e4_117 rfl ?_
    refine go_iaload e4_118 ha (k := k) hk (by rw [hx, if_neg (by omega)]) ?_
    refine go_istore_14 e4_119 rfl ?_
    refine go_iload e4_121 rfl ?_
    refine go_ifeqY e4_123 (tg := 130) (by decide) (by decide) ?_
    refine go_iload e4_130 rfl ?_
    refine go_iload e4_132 rfl ?_
    refine go_iadd e4_134 ?_
    refine go_istore_15 e4_135 rfl ?_
    refine go_aloadN e4_137 rfl rfl ?_
    refine go_iload e4_138 rfl ?_
    refine go_iaload e4_140 hp (k := own_city m0 s0 k) (own_nI (Nat.lt_trans (own_city7 _ _ _) (by decide))) (by have := hpo (by omega); exact this) ?_
    refine go_iload e4_141 rfl ?_
    refine go_icneN e4_143 (tg := 150) (by decide) rfl ?_
    refine go_iconst e4_146 (x := 1) rfl ?_
    refine go_goto e4_147 (tg := 151) (by decide) ?_
    refine go_zreturn e4_151 rfl rfl (by decide) (by decide) ?_
    exact ⟨_, rfl, rfl, rfl⟩
  · intro c3
    refine go_iloadN e4_6 rfl ?_
    refine go_iload e4_7 rfl ?_
    refine go_icgt e4_9 (tg := 16) (by decide) ?_ ?_
    · intro c9
      refine go_iconst e4_16 (x := 0) rfl ?_
      refine go_istore_10 e4_17 rfl ?_
      refine go_iload e4_19 rfl ?_
      refine go_ifeqY e4_21 (tg := 41) (by decide) (by decide) ?_
      refine go_iloadN e4_41 rfl ?_
      refine go_iload e4_42 rfl ?_
      refine go_iload e4_44 rfl ?_
      refine go_static_3 e4_46 (wd 6 rfl) (wd 7 rfl) (wd 8 rfl) (wd 2 rfl) hy_2 pd_3 rfl (c_city hw (k := k) hk hm hs (by omega) (by omega) (by omega)) rfl 0 rfl (by decide) (by decide) (by decide) (by decide) ?_
      rintro _ _ ⟨rfl, rfl⟩
      refine go_istore_11 e4_49 rfl ?_
      refine go_iload e4_51 rfl ?_
      refine go_iloadN e4_53 rfl ?_
      refine go_icgtN e4_54 (tg := 67) (by decide) c3 ?_
      refine go_iloadN e4_57 rfl ?_
      refine go_iload e4_58 rfl ?_
      refine go_icgeY e4_60 (tg := 67) (by decide) (by omega) ?_
      refine go_iconst e4_67 (x := 0) rfl ?_
      refine go_istore_12 e4_68 rfl ?_
      refine go_iload e4_70 rfl ?_
      refine go_ifeqY e4_72 (tg := 90) (by decide) (by decide) ?_
      refine go_iload e4_90 rfl ?_
      refine go_iloadN e4_92 rfl ?_
      refine go_iadd e4_93 ?_
      refine go_istore_13 e4_94 rfl ?_
      refine go_aloadN e4_96 rfl rfl ?_
      refine go_iloadN e4_97 rfl ?_
      refine go_iaload e4_98 ha (k := k) hk (by rw [hx, if_neg (by omega)]) ?_
      refine go_iload e4_99 rfl ?_
      refine go_iceqY e4_101 (tg := 106) (by decide) rfl ?_
      refine go_aloadN e4_106 rfl rfl ?_
      refine go_iloadN e4_107 rfl ?_
      refine go_iaload e4_108 hc (k := k) hk (by rw [hy, if_neg (by omega)]) ?_
      refine go_iload e4_109 rfl ?_
      refine go_iceqY e4_111 (tg := 116) (by decide) (by rw [own_ofN hk]) ?_
      refine go_aloadN e4_116 rfl rfl ?_
      refine go_iloadN e4_117 rfl ?_
      refine go_iaload e4_118 ha (k := k) hk (by rw [hx, if_neg (by omega)]) ?_
      refine go_istore_14 e4_119 rfl ?_
      refine go_iload e4_121 rfl ?_
      refine go_ifeqY e4_123 (tg := 130) (by decide) (by decide) ?_
      refine go_iload e4_130 rfl ?_
      refine go_iload e4_132 rfl ?_
      refine go_iadd e4_134 ?_
      refine go_istore_15 e4_135 rfl ?_
      refine go_aloadN e4_137 rfl rfl ?_
      refine go_iload e4_138 rfl ?_
      refine go_iaload e4_140 hp (k := own_city m0 s0 k) (own_nI (Nat.lt_trans (own_city7 _ _ _) (by decide))) (by have := hpo (by omega); exact this) ?_
      refine go_iload e4_141 rfl ?_
      refine go_icneN e4_143 (tg := 150) (by decide) rfl ?_
      refine go_iconst e4_146 (x := 1) rfl ?_
      refine go_goto e4_147 (tg := 151) (by decide) ?_
      refine go_zreturn e4_151 rfl rfl (by decide) (by decide) ?_
      exact ⟨_, rfl, rfl, rfl⟩
    · intro c9
      refine go_iconst e4_12 (x := 1) rfl ?_
      refine go_goto e4_13 (tg := 17) (by decide) ?_
      refine go_istore_10 e4_17 rfl ?_
      refine go_iload e4_19 rfl ?_
      refine go_ifeqN e4_21 (tg := 41) (by decide) (by decide) ?_
      refine go_iload e4_24 rfl ?_
      refine go_iload e4_26 rfl ?_
      refine go_iadd e4_28 ?_
      refine go_iloadN e4_29 rfl ?_
      refine go_isub e4_30 ?_
      refine go_iload e4_31 rfl ?_
      refine go_iload e4_33 rfl ?_
      refine go_static_3 e4_35 (wd 6 rfl) (wd 7 rfl) (wd 8 rfl) (wd 2 rfl) hy_2 pd_3 rfl (c_city hw (k := f + t - k) (by rw [own_sub (own_add hf ht (by omega) (by omega)) hk (by omega) (by omega)]; omega) hm hs (by omega) (by omega) (by omega)) rfl 0 rfl (by decide) (by decide) (by decide) (by decide) ?_
      rintro _ _ ⟨rfl, rfl⟩
      refine go_goto e4_38 (tg := 49) (by decide) ?_
      refine go_istore_11 e4_49 rfl ?_
      refine go_iload e4_51 rfl ?_
      refine go_iloadN e4_53 rfl ?_
      refine go_icgtN e4_54 (tg := 67) (by decide) c3 ?_
      refine go_iloadN e4_57 rfl ?_
      refine go_iload e4_58 rfl ?_
      refine go_icge e4_60 (tg := 67) (by decide) ?_ ?_
      · intro c60
        refine go_iconst e4_67 (x := 0) rfl ?_
        refine go_istore_12 e4_68 rfl ?_
        refine go_iload e4_70 rfl ?_
        refine go_ifeqY e4_72 (tg := 90) (by decide) (by decide) ?_
        refine go_iload e4_90 rfl ?_
        refine go_iloadN e4_92 rfl ?_
        refine go_iadd e4_93 ?_
        refine go_istore_13 e4_94 rfl ?_
        refine go_aloadN e4_96 rfl rfl ?_
        refine go_iloadN e4_97 rfl ?_
        refine go_iaload e4_98 ha (k := k) hk (by rw [hx, if_pos (by omega)]) ?_
        refine go_iload e4_99 rfl ?_
        refine go_iceqY e4_101 (tg := 106) (by decide) rfl ?_
        refine go_aloadN e4_106 rfl rfl ?_
        refine go_iloadN e4_107 rfl ?_
        refine go_iaload e4_108 hc (k := k) hk (by rw [hy, if_neg (by omega)]) ?_
        refine go_iload e4_109 rfl ?_
        refine go_iceqY e4_111 (tg := 116) (by decide) (by rw [own_ofN hk]) ?_
        refine go_aloadN e4_116 rfl rfl ?_
        refine go_iloadN e4_117 rfl ?_
        refine go_iaload e4_118 ha (k := k) hk (by rw [hx, if_pos (by omega)]) ?_
        refine go_istore_14 e4_119 rfl ?_
        refine go_iload e4_121 rfl ?_
        refine go_ifeqN e4_123 (tg := 130) (by decide) (by decide) ?_
        refine go_iloadN e4_126 rfl ?_
        refine go_goto e4_127 (tg := 135) (by decide) ?_
        refine go_istore_15 e4_135 rfl ?_
        refine go_aloadN e4_137 rfl rfl ?_
        refine go_iload e4_138 rfl ?_
        refine go_iaload e4_140 hp (k := own_city m0 s0 (f + t - k)) (own_nI (Nat.lt_trans (own_city7 _ _ _) (by decide))) (hpi (by omega)) ?_
        refine go_iload e4_141 rfl ?_
        refine go_icneN e4_143 (tg := 150) (by decide) (own_ofN hk).symm ?_
        refine go_iconst e4_146 (x := 1) rfl ?_
        refine go_goto e4_147 (tg := 151) (by decide) ?_
        refine go_zreturn e4_151 rfl rfl (by decide) (by decide) ?_
        exact ⟨_, rfl, rfl, rfl⟩
      · intro c60
        refine go_iconst e4_63 (x := 1) rfl ?_
        refine go_goto e4_64 (tg := 68) (by decide) ?_
        refine go_istore_12 e4_68 rfl ?_
        refine go_iload e4_70 rfl ?_
        refine go_ifeqN e4_72 (tg := 90) (by decide) (by decide) ?_
        refine go_iload e4_75 rfl ?_
        refine go_iload e4_77 rfl ?_
        refine go_iload e4_79 rfl ?_
        refine go_iadd e4_81 ?_
        refine go_iconst e4_82 (x := 1) rfl ?_
        refine go_isub e4_83 ?_
        refine go_iloadN e4_84 rfl ?_
        refine go_isub e4_85 ?_
        refine go_iadd e4_86 ?_
        refine go_goto e4_87 (tg := 94) (by decide) ?_
        refine go_istore_13 e4_94 rfl ?_
        refine go_aloadN e4_96 rfl rfl ?_
        refine go_iloadN e4_97 rfl ?_
        refine go_iaload e4_98 ha (k := k) hk (by rw [hx, if_pos (by omega)]) ?_
        refine go_iload e4_99 rfl ?_
        refine go_iceqY e4_101 (tg := 106) (by decide) rfl ?_
        refine go_aloadN e4_106 rfl rfl ?_
        refine go_iloadN e4_107 rfl ?_
        refine go_iaload e4_108 hc (k := k) hk (by rw [hy, if_pos (by omega)]) ?_
        refine go_iload e4_109 rfl ?_
        refine go_iceqY e4_111 (tg := 116) (by decide) (by rw [own_ofN (x := ff + tt - 1 - kk) (k := f + t - 1 - k) (by rw [own_sub (own_sub (own_add hf ht (by omega) (by omega)) own_one (by omega) (by omega)) hk (by omega) (by omega)]; omega)]) ?_
        refine go_aloadN e4_116 rfl rfl ?_
        refine go_iloadN e4_117 rfl ?_
        refine go_iaload e4_118 ha (k := k) hk (by rw [hx, if_pos (by omega)]) ?_
        refine go_istore_14 e4_119 rfl ?_
        refine go_iload e4_121 rfl ?_
        refine go_ifeqN e4_123 (tg := 130) (by decide) (by decide) ?_
        refine go_iloadN e4_126 rfl ?_
        refine go_goto e4_127 (tg := 135) (by decide) ?_
        refine go_istore_15 e4_135 rfl ?_
        refine go_aloadN e4_137 rfl rfl ?_
        refine go_iload e4_138 rfl ?_
        refine go_iaload e4_140 hp (k := own_city m0 s0 (f + t - k)) (own_nI (Nat.lt_trans (own_city7 _ _ _) (by decide))) (hpi (by omega)) ?_
        refine go_iload e4_141 rfl ?_
        refine go_icneN e4_143 (tg := 150) (by decide) (own_ofN hk).symm ?_
        refine go_iconst e4_146 (x := 1) rfl ?_
        refine go_goto e4_147 (tg := 151) (by decide) ?_
        refine go_zreturn e4_151 rfl rfl (by decide) (by decide) ?_
        exact ⟨_, rfl, rfl, rfl⟩
set_option maxRecDepth 65536 in
set_option maxHeartbeats 4000000 in
theorem law_met {l : Launch} {Z : State} {a0 : Array Value} {b : Nat} (hw : ∀ d ∈ tables_1, d.before a0 Z = true) (i0 i1 i2 i3 i4 i5 : Int32) :
    Met l Z a0 b x code maxLocals ret room_1 [.int i0, .int i1, .int i2, .int i3, .int i4, .int i5] [] (fun v _ => v = some (.int 1)) := by
  refine Met.of_go hw (plainFor_of_name pn_0) (L0 := [.val (.int i0), .val (.int i1), .val (.int i2), .val (.int i3), .val (.int i4), .val (.int i5), .unset, .unset, .unset, .unset, .unset, .unset, .unset]) rfl ?_
  intro p e s m args below meth c C
  refine go_iconst e0_0 (x := 1) rfl ?_
  refine go_iloadN e0_1 rfl ?_
  refine go_bipush e0_2 (x := 6) rfl ?_
  refine go_static_2 e0_4 (wd 0 rfl) (wd 1 rfl) (wd 3 rfl) (wd 2 rfl) hy_2 pd_4 rfl (c_mod hw (bd := 6) (by decide) (by decide)) rfl 1 rfl (by decide) (by decide) (by decide) (by decide) ?_
  rintro _ _ ⟨m1, rfl, ⟨n1, hm1, hm1l⟩, rfl⟩
  try simp only [List.replicate_succ, List.replicate_zero, List.set_cons_zero, List.set_cons_succ, List.length_nil, List.length_cons, Nat.zero_add, Nat.reduceAdd, List.nil_append, List.cons_append]
  refine go_iadd e0_7 ?_
  refine go_istoreX_6 e0_8 rfl ?_
  intro mm hmm
  obtain ⟨m0, hm, hm0, hm6⟩ : ∃ m0 : Nat, mm.toInt = (m0 : Int) ∧ 1 ≤ m0 ∧ m0 ≤ 6 := ⟨1 + n1, by rw [hmm, own_add own_one hm1 (by omega) (by omega)]; omega, by omega, by omega⟩
  refine go_iloadN e0_10 rfl ?_
  refine go_bipush e0_11 (x := 7) rfl ?_
  refine go_static_2 e0_13 (wd 0 rfl) (wd 1 rfl) (wd 3 rfl) (wd 2 rfl) hy_2 pd_4 rfl (c_mod hw (bd := 7) (by decide) (by decide)) rfl 0 rfl (by decide) (by decide) (by decide) (by decide) ?_
  rintro _ _ ⟨ss, rfl, ⟨s0, hs, hs7⟩, rfl⟩
  try simp only [List.replicate_succ, List.replicate_zero, List.set_cons_zero, List.set_cons_succ, List.length_nil, List.length_cons, Nat.zero_add, Nat.reduceAdd, List.nil_append, List.cons_append]
  refine go_istore_7 e0_16 rfl ?_
  refine go_iload e0_18 rfl ?_
  refine go_bipush e0_20 (x := 7) rfl ?_
  refine go_static_2 e0_22 (wd 0 rfl) (wd 1 rfl) (wd 3 rfl) (wd 2 rfl) hy_2 pd_4 rfl (c_mod hw (bd := 7) (by decide) (by decide)) rfl 0 rfl (by decide) (by decide) (by decide) (by decide) ?_
  rintro _ _ ⟨ff, rfl, ⟨f, hf, hf7⟩, rfl⟩
  try simp only [List.replicate_succ, List.replicate_zero, List.set_cons_zero, List.set_cons_succ, List.length_nil, List.length_cons, Nat.zero_add, Nat.reduceAdd, List.nil_append, List.cons_append]
  refine go_istore_8 e0_25 rfl ?_
  refine go_iload e0_27 rfl ?_
  refine go_iload e0_29 rfl ?_
  refine go_bipush e0_31 (x := 7) rfl ?_
  refine go_iload e0_33 rfl ?_
  refine go_isub e0_35 ?_
  have k7 : (7 : Int32).toInt = 7 := rfl
  have h7f : (7 - ff).toInt = ((7 - f : Nat) : Int) := by rw [own_sub k7 hf (by omega) (by omega)]; omega
  refine go_static_2 e0_36 (wd 0 rfl) (wd 1 rfl) (wd 3 rfl) (wd 2 rfl) hy_2 pd_4 rfl (c_mod hw (bd := 7 - f) h7f (by omega)) rfl 1 rfl (by decide) (by decide) (by decide) (by decide) ?_
  rintro _ _ ⟨t1, rfl, ⟨n2, ht1, ht1l⟩, rfl⟩
  try simp only [List.replicate_succ, List.replicate_zero, List.set_cons_zero, List.set_cons_succ, List.length_nil, List.length_cons, Nat.zero_add, Nat.reduceAdd, List.nil_append, List.cons_append]
  refine go_iadd e0_39 ?_
  refine go_istoreX_9 e0_40 rfl ?_
  intro tt htt
  obtain ⟨t, ht, hft, ht7⟩ : ∃ t : Nat, tt.toInt = (t : Int) ∧ f ≤ t ∧ t < 7 := ⟨f + n2, by rw [htt, own_add hf ht1 (by omega) (by omega)]; omega, by omega, by omega⟩
  refine go_bipush e0_42 (x := 7) rfl ?_
  refine go_newarray e0_44 (wd 5 rfl) (k := 7) rfl (vs := [.int 0, .int 0, .int 0, .int 0, .int 0, .int 0, .int 0]) rfl (cap := 7) (by decide) (by decide) (by decide) (by decide) ?_
  simp only [List.replicate_succ, List.replicate_zero, List.set_cons_zero, List.set_cons_succ, List.length_nil, List.length_cons, Nat.zero_add, Nat.reduceAdd, List.nil_append, List.cons_append]
  refine go_astore_10 e0_46 rfl rfl ?_
  refine go_aload e0_48 rfl rfl ?_
  refine go_iconst e0_50 (x := 0) rfl ?_
  refine go_iconst e0_51 (x := 0) rfl ?_
  refine go_iload e0_52 rfl ?_
  refine go_iload e0_54 rfl ?_
  refine go_static_3 e0_56 (wd 6 rfl) (wd 7 rfl) (wd 8 rfl) (wd 2 rfl) hy_2 pd_3 rfl (c_city hw (k := 0) (by decide) hm hs (by decide) (by omega) (by omega)) rfl 2 rfl (by decide) (by decide) (by decide) (by decide) ?_
  rintro _ _ ⟨rfl, rfl⟩
  try simp only [List.replicate_succ, List.replicate_zero, List.set_cons_zero, List.set_cons_succ, List.length_nil, List.length_cons, Nat.zero_add, Nat.reduceAdd, List.nil_append, List.cons_append]
  refine go_iastore e0_59 rfl (k := 0) (by decide) (Nat.le_of_ble_eq_true rfl) ?_
  simp only [List.replicate_succ, List.replicate_zero, List.set_cons_zero, List.set_cons_succ, List.length_nil, List.length_cons, Nat.zero_add, Nat.reduceAdd, List.nil_append, List.cons_append]
  refine go_aload e0_60 rfl rfl ?_
  refine go_iconst e0_62 (x := 1) rfl ?_
  refine go_iconst e0_63 (x := 1) rfl ?_
  refine go_iload e0_64 rfl ?_
  refine go_iload e0_66 rfl ?_
  refine go_static_3 e0_68 (wd 6 rfl) (wd 7 rfl) (wd 8 rfl) (wd 2 rfl) hy_2 pd_3 rfl (c_city hw (k := 1) (by decide) hm hs (by decide) (by omega) (by omega)) rfl 2 rfl (by decide) (by decide) (by decide) (by decide) ?_
  rintro _ _ ⟨rfl, rfl⟩
  try simp only [List.replicate_succ, List.replicate_zero, List.set_cons_zero, List.set_cons_succ, List.length_nil, List.length_cons, Nat.zero_add, Nat.reduceAdd, List.nil_append, List.cons_append]
  refine go_iastore e0_71 rfl (k := 1) (by decide) (Nat.le_of_ble_eq_true rfl) ?_
  simp only [List.replicate_succ, List.replicate_zero, List.set_cons_zero, List.set_cons_succ, List.length_nil, List.length_cons, Nat.zero_add, Nat.reduceAdd, List.nil_append, List.cons_append]
  refine go_aload e0_72 rfl rfl ?_
  refine go_iconst e0_74 (x := 2) rfl ?_
  refine go_iconst e0_75 (x := 2) rfl ?_
  refine go_iload e0_76 rfl ?_
  refine go_iload e0_78 rfl ?_
  refine go_static_3 e0_80 (wd 6 rfl) (wd 7 rfl) (wd 8 rfl) (wd 2 rfl) hy_2 pd_3 rfl (c_city hw (k := 2) (by decide) hm hs (by decide) (by omega) (by omega)) rfl 2 rfl (by decide) (by decide) (by decide) (by decide) ?_
  rintro _ _ ⟨rfl, rfl⟩
  try simp only [List.replicate_succ, List.replicate_zero, List.set_cons_zero, List.set_cons_succ, List.length_nil, List.length_cons, Nat.zero_add, Nat.reduceAdd, List.nil_append, List.cons_append]
  refine go_iastore e0_83 rfl (k := 2) (by decide) (Nat.le_of_ble_eq_true rfl) ?_
  simp only [List.replicate_succ, List.replicate_zero, List.set_cons_zero, List.set_cons_succ, List.length_nil, List.length_cons, Nat.zero_add, Nat.reduceAdd, List.nil_append, List.cons_append]
  refine go_aload e0_84 rfl rfl ?_
  refine go_iconst e0_86 (x := 3) rfl ?_
  refine go_iconst e0_87 (x := 3) rfl ?_
  refine go_iload e0_88 rfl ?_
  refine go_iload e0_90 rfl ?_
  refine go_static_3 e0_92 (wd 6 rfl) (wd 7 rfl) (wd 8 rfl) (wd 2 rfl) hy_2 pd_3 rfl (c_city hw (k := 3) (by decide) hm hs (by decide) (by omega) (by omega)) rfl 2 rfl (by decide) (by decide) (by decide) (by decide) ?_
  rintro _ _ ⟨rfl, rfl⟩
  try simp only [List.replicate_succ, List.replicate_zero, List.set_cons_zero, List.set_cons_succ, List.length_nil, List.length_cons, Nat.zero_add, Nat.reduceAdd, List.nil_append, List.cons_append]
  refine go_iastore e0_95 rfl (k := 3) (by decide) (Nat.le_of_ble_eq_true rfl) ?_
  simp only [List.replicate_succ, List.replicate_zero, List.set_cons_zero, List.set_cons_succ, List.length_nil, List.length_cons, Nat.zero_add, Nat.reduceAdd, List.nil_append, List.cons_append]
  refine go_aload e0_96 rfl rfl ?_
  refine go_iconst e0_98 (x := 4) rfl ?_
  refine go_iconst e0_99 (x := 4) rfl ?_
  refine go_iload e0_100 rfl ?_
  refine go_iload e0_102 rfl ?_
  refine go_static_3 e0_104 (wd 6 rfl) (wd 7 rfl) (wd 8 rfl) (wd 2 rfl) hy_2 pd_3 rfl (c_city hw (k := 4) (by decide) hm hs (by decide) (by omega) (by omega)) rfl 2 rfl (by decide) (by decide) (by decide) (by decide) ?_
  rintro _ _ ⟨rfl, rfl⟩
  try simp only [List.replicate_succ, List.replicate_zero, List.set_cons_zero, List.set_cons_succ, List.length_nil, List.length_cons, Nat.zero_add, Nat.reduceAdd, List.nil_append, List.cons_append]
  refine go_iastore e0_107 rfl (k := 4) (by decide) (Nat.le_of_ble_eq_true rfl) ?_
  simp only [List.replicate_succ, List.replicate_zero, List.set_cons_zero, List.set_cons_succ, List.length_nil, List.length_cons, Nat.zero_add, Nat.reduceAdd, List.nil_append, List.cons_append]
  refine go_aload e0_108 rfl rfl ?_
  refine go_iconst e0_110 (x := 5) rfl ?_
  refine go_iconst e0_111 (x := 5) rfl ?_
  refine go_iload e0_112 rfl ?_
  refine go_iload e0_114 rfl ?_
  refine go_static_3 e0_116 (wd 6 rfl) (wd 7 rfl) (wd 8 rfl) (wd 2 rfl) hy_2 pd_3 rfl (c_city hw (k := 5) (by decide) hm hs (by decide) (by omega) (by omega)) rfl 2 rfl (by decide) (by decide) (by decide) (by decide) ?_
  rintro _ _ ⟨rfl, rfl⟩
  try simp only [List.replicate_succ, List.replicate_zero, List.set_cons_zero, List.set_cons_succ, List.length_nil, List.length_cons, Nat.zero_add, Nat.reduceAdd, List.nil_append, List.cons_append]
  refine go_iastore e0_119 rfl (k := 5) (by decide) (Nat.le_of_ble_eq_true rfl) ?_
  simp only [List.replicate_succ, List.replicate_zero, List.set_cons_zero, List.set_cons_succ, List.length_nil, List.length_cons, Nat.zero_add, Nat.reduceAdd, List.nil_append, List.cons_append]
  refine go_aload e0_120 rfl rfl ?_
  refine go_bipush e0_122 (x := 6) rfl ?_
  refine go_bipush e0_124 (x := 6) rfl ?_
  refine go_iload e0_126 rfl ?_
  refine go_iload e0_128 rfl ?_
  refine go_static_3 e0_130 (wd 6 rfl) (wd 7 rfl) (wd 8 rfl) (wd 2 rfl) hy_2 pd_3 rfl (c_city hw (k := 6) (by decide) hm hs (by decide) (by omega) (by omega)) rfl 2 rfl (by decide) (by decide) (by decide) (by decide) ?_
  rintro _ _ ⟨rfl, rfl⟩
  try simp only [List.replicate_succ, List.replicate_zero, List.set_cons_zero, List.set_cons_succ, List.length_nil, List.length_cons, Nat.zero_add, Nat.reduceAdd, List.nil_append, List.cons_append]
  refine go_iastore e0_133 rfl (k := 6) (by decide) (Nat.le_of_ble_eq_true rfl) ?_
  simp only [List.replicate_succ, List.replicate_zero, List.set_cons_zero, List.set_cons_succ, List.length_nil, List.length_cons, Nat.zero_add, Nat.reduceAdd, List.nil_append, List.cons_append]
  refine go_bipush e0_134 (x := 7) rfl ?_
  refine go_newarray e0_136 (wd 5 rfl) (k := 7) rfl (vs := [.int 0, .int 0, .int 0, .int 0, .int 0, .int 0, .int 0]) rfl (cap := 7) (by decide) (by decide) (by decide) (by decide) ?_
  simp only [List.replicate_succ, List.replicate_zero, List.set_cons_zero, List.set_cons_succ, List.length_nil, List.length_cons, Nat.zero_add, Nat.reduceAdd, List.nil_append, List.cons_append]
  refine go_astore_11 e0_138 rfl rfl ?_
  refine go_aload e0_140 rfl rfl ?_
  refine go_iconst e0_142 (x := 0) rfl ?_
  refine go_iloadN e0_143 rfl ?_
  refine go_iastore e0_144 rfl (k := 0) (by decide) (Nat.le_of_ble_eq_true rfl) ?_
  simp only [List.replicate_succ, List.replicate_zero, List.set_cons_zero, List.set_cons_succ, List.length_nil, List.length_cons, Nat.zero_add, Nat.reduceAdd, List.nil_append, List.cons_append]
  refine go_aload e0_145 rfl rfl ?_
  refine go_iconst e0_147 (x := 1) rfl ?_
  refine go_iloadN e0_148 rfl ?_
  refine go_iconst e0_149 (x := 1) rfl ?_
  refine go_iadd e0_150 ?_
  refine go_iastore e0_151 rfl (k := 1) (by decide) (Nat.le_of_ble_eq_true rfl) ?_
  simp only [List.replicate_succ, List.replicate_zero, List.set_cons_zero, List.set_cons_succ, List.length_nil, List.length_cons, Nat.zero_add, Nat.reduceAdd, List.nil_append, List.cons_append]
  refine go_aload e0_152 rfl rfl ?_
  refine go_iconst e0_154 (x := 2) rfl ?_
  refine go_iloadN e0_155 rfl ?_
  refine go_iconst e0_156 (x := 2) rfl ?_
  refine go_iadd e0_157 ?_
  refine go_iastore e0_158 rfl (k := 2) (by decide) (Nat.le_of_ble_eq_true rfl) ?_
  simp only [List.replicate_succ, List.replicate_zero, List.set_cons_zero, List.set_cons_succ, List.length_nil, List.length_cons, Nat.zero_add, Nat.reduceAdd, List.nil_append, List.cons_append]
  refine go_aload e0_159 rfl rfl ?_
  refine go_iconst e0_161 (x := 3) rfl ?_
  refine go_iloadN e0_162 rfl ?_
  refine go_iconst e0_163 (x := 3) rfl ?_
  refine go_iadd e0_164 ?_
  refine go_iastore e0_165 rfl (k := 3) (by decide) (Nat.le_of_ble_eq_true rfl) ?_
  simp only [List.replicate_succ, List.replicate_zero, List.set_cons_zero, List.set_cons_succ, List.length_nil, List.length_cons, Nat.zero_add, Nat.reduceAdd, List.nil_append, List.cons_append]
  refine go_aload e0_166 rfl rfl ?_
  refine go_iconst e0_168 (x := 4) rfl ?_
  refine go_iloadN e0_169 rfl ?_
  refine go_iconst e0_170 (x := 4) rfl ?_
  refine go_iadd e0_171 ?_
  refine go_iastore e0_172 rfl (k := 4) (by decide) (Nat.le_of_ble_eq_true rfl) ?_
  simp only [List.replicate_succ, List.replicate_zero, List.set_cons_zero, List.set_cons_succ, List.length_nil, List.length_cons, Nat.zero_add, Nat.reduceAdd, List.nil_append, List.cons_append]
  refine go_aload e0_173 rfl rfl ?_
  refine go_iconst e0_175 (x := 5) rfl ?_
  refine go_iloadN e0_176 rfl ?_
  refine go_iconst e0_177 (x := 5) rfl ?_
  refine go_iadd e0_178 ?_
  refine go_iastore e0_179 rfl (k := 5) (by decide) (Nat.le_of_ble_eq_true rfl) ?_
  simp only [List.replicate_succ, List.replicate_zero, List.set_cons_zero, List.set_cons_succ, List.length_nil, List.length_cons, Nat.zero_add, Nat.reduceAdd, List.nil_append, List.cons_append]
  refine go_aload e0_180 rfl rfl ?_
  refine go_bipush e0_182 (x := 6) rfl ?_
  refine go_iloadN e0_184 rfl ?_
  refine go_bipush e0_185 (x := 6) rfl ?_
  refine go_iadd e0_187 ?_
  refine go_iastore e0_188 rfl (k := 6) (by decide) (Nat.le_of_ble_eq_true rfl) ?_
  simp only [List.replicate_succ, List.replicate_zero, List.set_cons_zero, List.set_cons_succ, List.length_nil, List.length_cons, Nat.zero_add, Nat.reduceAdd, List.nil_append, List.cons_append]
  refine go_bipush e0_189 (x := 7) rfl ?_
  refine go_newarray e0_191 (wd 5 rfl) (k := 7) rfl (vs := [.int 0, .int 0, .int 0, .int 0, .int 0, .int 0, .int 0]) rfl (cap := 7) (by decide) (by decide) (by decide) (by decide) ?_
  simp only [List.replicate_succ, List.replicate_zero, List.set_cons_zero, List.set_cons_succ, List.length_nil, List.length_cons, Nat.zero_add, Nat.reduceAdd, List.nil_append, List.cons_append]
  refine go_astore_12 e0_193 rfl rfl ?_
  refine go_aload e0_195 rfl rfl ?_
  refine go_iconst e0_197 (x := 0) rfl ?_
  refine go_iloadN e0_198 rfl ?_
  refine go_iastore e0_199 rfl (k := 0) (by decide) (Nat.le_of_ble_eq_true rfl) ?_
  simp only [List.replicate_succ, List.replicate_zero, List.set_cons_zero, List.set_cons_succ, List.length_nil, List.length_cons, Nat.zero_add, Nat.reduceAdd, List.nil_append, List.cons_append]
  refine go_aload e0_200 rfl rfl ?_
  refine go_iconst e0_202 (x := 1) rfl ?_
  refine go_iloadN e0_203 rfl ?_
  refine go_iconst e0_204 (x := 1) rfl ?_
  refine go_iadd e0_205 ?_
  refine go_iastore e0_206 rfl (k := 1) (by decide) (Nat.le_of_ble_eq_true rfl) ?_
  simp only [List.replicate_succ, List.replicate_zero, List.set_cons_zero, List.set_cons_succ, List.length_nil, List.length_cons, Nat.zero_add, Nat.reduceAdd, List.nil_append, List.cons_append]
  refine go_aload e0_207 rfl rfl ?_
  refine go_iconst e0_209 (x := 2) rfl ?_
  refine go_iloadN e0_210 rfl ?_
  refine go_iconst e0_211 (x := 2) rfl ?_
  refine go_iadd e0_212 ?_
  refine go_iastore e0_213 rfl (k := 2) (by decide) (Nat.le_of_ble_eq_true rfl) ?_
  simp only [List.replicate_succ, List.replicate_zero, List.set_cons_zero, List.set_cons_succ, List.length_nil, List.length_cons, Nat.zero_add, Nat.reduceAdd, List.nil_append, List.cons_append]
  refine go_aload e0_214 rfl rfl ?_
  refine go_iconst e0_216 (x := 3) rfl ?_
  refine go_iloadN e0_217 rfl ?_
  refine go_iconst e0_218 (x := 3) rfl ?_
  refine go_iadd e0_219 ?_
  refine go_iastore e0_220 rfl (k := 3) (by decide) (Nat.le_of_ble_eq_true rfl) ?_
  simp only [List.replicate_succ, List.replicate_zero, List.set_cons_zero, List.set_cons_succ, List.length_nil, List.length_cons, Nat.zero_add, Nat.reduceAdd, List.nil_append, List.cons_append]
  refine go_aload e0_221 rfl rfl ?_
  refine go_iconst e0_223 (x := 4) rfl ?_
  refine go_iloadN e0_224 rfl ?_
  refine go_iconst e0_225 (x := 4) rfl ?_
  refine go_iadd e0_226 ?_
  refine go_iastore e0_227 rfl (k := 4) (by decide) (Nat.le_of_ble_eq_true rfl) ?_
  simp only [List.replicate_succ, List.replicate_zero, List.set_cons_zero, List.set_cons_succ, List.length_nil, List.length_cons, Nat.zero_add, Nat.reduceAdd, List.nil_append, List.cons_append]
  refine go_aload e0_228 rfl rfl ?_
  refine go_iconst e0_230 (x := 5) rfl ?_
  refine go_iloadN e0_231 rfl ?_
  refine go_iconst e0_232 (x := 5) rfl ?_
  refine go_iadd e0_233 ?_
  refine go_iastore e0_234 rfl (k := 5) (by decide) (Nat.le_of_ble_eq_true rfl) ?_
  simp only [List.replicate_succ, List.replicate_zero, List.set_cons_zero, List.set_cons_succ, List.length_nil, List.length_cons, Nat.zero_add, Nat.reduceAdd, List.nil_append, List.cons_append]
  refine go_aload e0_235 rfl rfl ?_
  refine go_bipush e0_237 (x := 6) rfl ?_
  refine go_iloadN e0_239 rfl ?_
  refine go_bipush e0_240 (x := 6) rfl ?_
  refine go_iadd e0_242 ?_
  refine go_iastore e0_243 rfl (k := 6) (by decide) (Nat.le_of_ble_eq_true rfl) ?_
  simp only [List.replicate_succ, List.replicate_zero, List.set_cons_zero, List.set_cons_succ, List.length_nil, List.length_cons, Nat.zero_add, Nat.reduceAdd, List.nil_append, List.cons_append]
  refine go_aload e0_244 rfl rfl ?_
  refine go_aload e0_246 rfl rfl ?_
  refine go_aload e0_248 rfl rfl ?_
  refine go_iload e0_250 rfl ?_
  refine go_iload e0_252 rfl ?_
  refine go_staticV_5 e0_254 (wd 9 rfl) (wd 10 rfl) (wd 12 rfl) (wd 11 rfl) hy_5 pd_6 rfl (c_rev hw (vs := own_cv m0 s0) (us := own_seq i2) (ws := own_seq i3) (cy := own_city m0 s0) rfl rfl rfl (by decide) (by decide) (by decide) hf ht hft ht7 rfl rfl rfl (fun k hk => own_cv_at m0 s0 hk) (own_seq_i i2) (own_city7 m0 s0) (own_cinj hm0 hm6)) rfl 0 rfl (by decide) (by decide) (by decide) (by decide) ?_
  rintro _ ⟨cs, es, ps, rfl, hcs, hes, hps⟩
  simp only [HH]
  try simp only [List.replicate_succ, List.replicate_zero, List.set_cons_zero, List.set_cons_succ, List.length_nil, List.length_cons, Nat.zero_add, Nat.reduceAdd, List.nil_append, List.cons_append]
  refine go_iconst e0_257 (x := 0) rfl ?_
  refine go_aload e0_258 rfl rfl ?_
  refine go_aload e0_260 rfl rfl ?_
  refine go_aload e0_262 rfl rfl ?_
  refine go_iload e0_264 rfl ?_
  refine go_iload e0_266 rfl ?_
  refine go_iloadN e0_268 rfl ?_
  refine go_iloadN e0_269 rfl ?_
  refine go_iload e0_270 rfl ?_
  refine go_iload e0_272 rfl ?_
  refine go_static_10 e0_274 (wd 13 rfl) (wd 14 rfl) (wd 15 rfl) (wd 2 rfl) hy_2 pd_7 rfl (c_at hw (k := 0) rfl rfl rfl (by decide) hm hs hf ht hft ht7 (by decide) hm6 hs7 (own_c_at hcs (by decide) ht7 hft) (own_e_at hes (by decide) ht7 hft) (own_p_in hps) (own_p_out hps hm0 hm6 (by decide) ht7)) rfl 0 rfl (by decide) (by decide) (by decide) (by decide) ?_
  rintro _ _ ⟨rfl, rfl⟩
  try simp only [List.replicate_succ, List.replicate_zero, List.set_cons_zero, List.set_cons_succ, List.length_nil, List.length_cons, Nat.zero_add, Nat.reduceAdd, List.nil_append, List.cons_append]
  refine go_ifeqN e0_277 (tg := 423) (by decide) (by decide) ?_
  refine go_iconst e0_280 (x := 1) rfl ?_
  refine go_aload e0_281 rfl rfl ?_
  refine go_aload e0_283 rfl rfl ?_
  refine go_aload e0_285 rfl rfl ?_
  refine go_iload e0_287 rfl ?_
  refine go_iload e0_289 rfl ?_
  refine go_iloadN e0_291 rfl ?_
  refine go_iloadN e0_292 rfl ?_
  refine go_iload e0_293 rfl ?_
  refine go_iload e0_295 rfl ?_
  refine go_static_10 e0_297 (wd 13 rfl) (wd 14 rfl) (wd 15 rfl) (wd 2 rfl) hy_2 pd_7 rfl (c_at hw (k := 1) rfl rfl rfl (by decide) hm hs hf ht hft ht7 (by decide) hm6 hs7 (own_c_at hcs (by decide) ht7 hft) (own_e_at hes (by decide) ht7 hft) (own_p_in hps) (own_p_out hps hm0 hm6 (by decide) ht7)) rfl 0 rfl (by decide) (by decide) (by decide) (by decide) ?_
  rintro _ _ ⟨rfl, rfl⟩
  try simp only [List.replicate_succ, List.replicate_zero, List.set_cons_zero, List.set_cons_succ, List.length_nil, List.length_cons, Nat.zero_add, Nat.reduceAdd, List.nil_append, List.cons_append]
  refine go_ifeqN e0_300 (tg := 423) (by decide) (by decide) ?_
  refine go_iconst e0_303 (x := 2) rfl ?_
  refine go_aload e0_304 rfl rfl ?_
  refine go_aload e0_306 rfl rfl ?_
  refine go_aload e0_308 rfl rfl ?_
  refine go_iload e0_310 rfl ?_
  refine go_iload e0_312 rfl ?_
  refine go_iloadN e0_314 rfl ?_
  refine go_iloadN e0_315 rfl ?_
  refine go_iload e0_316 rfl ?_
  refine go_iload e0_318 rfl ?_
  refine go_static_10 e0_320 (wd 13 rfl) (wd 14 rfl) (wd 15 rfl) (wd 2 rfl) hy_2 pd_7 rfl (c_at hw (k := 2) rfl rfl rfl (by decide) hm hs hf ht hft ht7 (by decide) hm6 hs7 (own_c_at hcs (by decide) ht7 hft) (own_e_at hes (by decide) ht7 hft) (own_p_in hps) (own_p_out hps hm0 hm6 (by decide) ht7)) rfl 0 rfl (by decide) (by decide) (by decide) (by decide) ?_
  rintro _ _ ⟨rfl, rfl⟩
  try simp only [List.replicate_succ, List.replicate_zero, List.set_cons_zero, List.set_cons_succ, List.length_nil, List.length_cons, Nat.zero_add, Nat.reduceAdd, List.nil_append, List.cons_append]
  refine go_ifeqN e0_323 (tg := 423) (by decide) (by decide) ?_
  refine go_iconst e0_326 (x := 3) rfl ?_
  refine go_aload e0_327 rfl rfl ?_
  refine go_aload e0_329 rfl rfl ?_
  refine go_aload e0_331 rfl rfl ?_
  refine go_iload e0_333 rfl ?_
  refine go_iload e0_335 rfl ?_
  refine go_iloadN e0_337 rfl ?_
  refine go_iloadN e0_338 rfl ?_
  refine go_iload e0_339 rfl ?_
  refine go_iload e0_341 rfl ?_
  refine go_static_10 e0_343 (wd 13 rfl) (wd 14 rfl) (wd 15 rfl) (wd 2 rfl) hy_2 pd_7 rfl (c_at hw (k := 3) rfl rfl rfl (by decide) hm hs hf ht hft ht7 (by decide) hm6 hs7 (own_c_at hcs (by decide) ht7 hft) (own_e_at hes (by decide) ht7 hft) (own_p_in hps) (own_p_out hps hm0 hm6 (by decide) ht7)) rfl 0 rfl (by decide) (by decide) (by decide) (by decide) ?_
  rintro _ _ ⟨rfl, rfl⟩
  try simp only [List.replicate_succ, List.replicate_zero, List.set_cons_zero, List.set_cons_succ, List.length_nil, List.length_cons, Nat.zero_add, Nat.reduceAdd, List.nil_append, List.cons_append]
  refine go_ifeqN e0_346 (tg := 423) (by decide) (by decide) ?_
  refine go_iconst e0_349 (x := 4) rfl ?_
  refine go_aload e0_350 rfl rfl ?_
  refine go_aload e0_352 rfl rfl ?_
  refine go_aload e0_354 rfl rfl ?_
  refine go_iload e0_356 rfl ?_
  refine go_iload e0_358 rfl ?_
  refine go_iloadN e0_360 rfl ?_
  refine go_iloadN e0_361 rfl ?_
  refine go_iload e0_362 rfl ?_
  refine go_iload e0_364 rfl ?_
  refine go_static_10 e0_366 (wd 13 rfl) (wd 14 rfl) (wd 15 rfl) (wd 2 rfl) hy_2 pd_7 rfl (c_at hw (k := 4) rfl rfl rfl (by decide) hm hs hf ht hft ht7 (by decide) hm6 hs7 (own_c_at hcs (by decide) ht7 hft) (own_e_at hes (by decide) ht7 hft) (own_p_in hps) (own_p_out hps hm0 hm6 (by decide) ht7)) rfl 0 rfl (by decide) (by decide) (by decide) (by decide) ?_
  rintro _ _ ⟨rfl, rfl⟩
  try simp only [List.replicate_succ, List.replicate_zero, List.set_cons_zero, List.set_cons_succ, List.length_nil, List.length_cons, Nat.zero_add, Nat.reduceAdd, List.nil_append, List.cons_append]
  refine go_ifeqN e0_369 (tg := 423) (by decide) (by decide) ?_
  refine go_iconst e0_372 (x := 5) rfl ?_
  refine go_aload e0_373 rfl rfl ?_
  refine go_aload e0_375 rfl rfl ?_
  refine go_aload e0_377 rfl rfl ?_
  refine go_iload e0_379 rfl ?_
  refine go_iload e0_381 rfl ?_
  refine go_iloadN e0_383 rfl ?_
  refine go_iloadN e0_384 rfl ?_
  refine go_iload e0_385 rfl ?_
  refine go_iload e0_387 rfl ?_
  refine go_static_10 e0_389 (wd 13 rfl) (wd 14 rfl) (wd 15 rfl) (wd 2 rfl) hy_2 pd_7 rfl (c_at hw (k := 5) rfl rfl rfl (by decide) hm hs hf ht hft ht7 (by decide) hm6 hs7 (own_c_at hcs (by decide) ht7 hft) (own_e_at hes (by decide) ht7 hft) (own_p_in hps) (own_p_out hps hm0 hm6 (by decide) ht7)) rfl 0 rfl (by decide) (by decide) (by decide) (by decide) ?_
  rintro _ _ ⟨rfl, rfl⟩
  try simp only [List.replicate_succ, List.replicate_zero, List.set_cons_zero, List.set_cons_succ, List.length_nil, List.length_cons, Nat.zero_add, Nat.reduceAdd, List.nil_append, List.cons_append]
  refine go_ifeqN e0_392 (tg := 423) (by decide) (by decide) ?_
  refine go_bipush e0_395 (x := 6) rfl ?_
  refine go_aload e0_397 rfl rfl ?_
  refine go_aload e0_399 rfl rfl ?_
  refine go_aload e0_401 rfl rfl ?_
  refine go_iload e0_403 rfl ?_
  refine go_iload e0_405 rfl ?_
  refine go_iloadN e0_407 rfl ?_
  refine go_iloadN e0_408 rfl ?_
  refine go_iload e0_409 rfl ?_
  refine go_iload e0_411 rfl ?_
  refine go_static_10 e0_413 (wd 13 rfl) (wd 14 rfl) (wd 15 rfl) (wd 2 rfl) hy_2 pd_7 rfl (c_at hw (k := 6) rfl rfl rfl (by decide) hm hs hf ht hft ht7 (by decide) hm6 hs7 (own_c_at hcs (by decide) ht7 hft) (own_e_at hes (by decide) ht7 hft) (own_p_in hps) (own_p_out hps hm0 hm6 (by decide) ht7)) rfl 0 rfl (by decide) (by decide) (by decide) (by decide) ?_
  rintro _ _ ⟨rfl, rfl⟩
  try simp only [List.replicate_succ, List.replicate_zero, List.set_cons_zero, List.set_cons_succ, List.length_nil, List.length_cons, Nat.zero_add, Nat.reduceAdd, List.nil_append, List.cons_append]
  refine go_ifeqN e0_416 (tg := 423) (by decide) (by decide) ?_
  refine go_iconst e0_419 (x := 1) rfl ?_
  refine go_goto e0_420 (tg := 424) (by decide) ?_
  refine go_zreturn e0_424 rfl (by decide) (by decide) (by decide) ?_
  exact rfl
set_option maxRecDepth 65536 in
set_option maxHeartbeats 40000000 in
theorem comes_1 {Post : Tables → Env → Array Value → State → Outcome → State → Prop} (hpost : ∀ tb e args s v u, (limb_1_1.after args s (.returned v) u = true ∧ limb_1_2.after args s (.returned v) u = true ∧ True) → FrameEnd s (.returned v) u (Jvm.fieldLocs frame_1_writes args s ++ Jvm.arrayLocs frame_1_arrays args s ++ Jvm.staticLocs frame_1_statics s) 16 128 → Post tb e args s (.returned v) u) :
    ArmFor flags0 classFile x code maxLocals ret World_1 tables_1 room_1 Calls_1 rest_1 Pre_1 Post := by
  intro l hfl _ _ p e ha hc hk s m args below hf hA hF happ hP
  obtain ⟨hcalls, hrest, hpre⟩ := hP
  obtain ⟨-, -, -, hnamed, -, -, -, hat⟩ := (Spec.applies_iff hf).mp happ
  obtain ⟨hg, hn⟩ := and_e (Cond.before_iff.mp (show (Jvm.Cond.and given_1 narrow_1).before args s = true from hpre))
  obtain ⟨h1, h2⟩ := and_e hg
  obtain ⟨w0, w1, w2, w3, w4, w5, rfl⟩ : ∃ w0 w1 w2 w3 w4 w5 : Value, args = #[w0, w1, w2, w3, w4, w5] := by
    have hs : args.size = 6 := by simpa [Cond.value, given_1] using h1
    obtain ⟨L⟩ := args
    match L, hs with
    | [w0, w1, w2, w3, w4, w5], _ => exact ⟨w0, w1, w2, w3, w4, w5, rfl⟩
  have hw := fun d (hd : d ∈ tables_1) => atoms_spec (ws := Jvm.Cond.code x code maxLocals ret :: tables_1) hat d (List.mem_cons_of_mem _ hd)
  obtain ⟨a0, b0⟩ := and_e h2
  obtain ⟨i0, e0⟩ := is_v a0
  obtain rfl : w0 = (.int i0) := Option.some.inj e0
  obtain ⟨a1, b1⟩ := and_e b0
  obtain ⟨i1, e1⟩ := is_v a1
  obtain rfl : w1 = (.int i1) := Option.some.inj e1
  obtain ⟨a2, b2⟩ := and_e b1
  obtain ⟨i2, e2⟩ := is_v a2
  obtain rfl : w2 = (.int i2) := Option.some.inj e2
  obtain ⟨a3, b3⟩ := and_e b2
  obtain ⟨i3, e3⟩ := is_v a3
  obtain rfl : w3 = (.int i3) := Option.some.inj e3
  obtain ⟨a4, b4⟩ := and_e b3
  obtain ⟨i4, e4⟩ := is_v a4
  obtain rfl : w4 = (.int i4) := Option.some.inj e4
  obtain ⟨i5, e5⟩ := is_v b4
  obtain rfl : w5 = (.int i5) := Option.some.inj e5
  obtain ⟨n, o, h1, h2, h3, _, L, rfl, ⟨N, v', H', rfl, -, rfl⟩, hq⟩ := law_met (l := l) (Z := s) (b := s.heap.size) hw i0 i1 i2 i3 i4 i5 s.heap (Rel.nil s.heap) tables_1 p e ha hc hk s m _ below hf ((Spec.applies_iff_loose hf).mp happ).1 ⟨rfl, State.Warmed39.refl s, rfl⟩ trivial
  refine ⟨n, _, h1, h2, h3, hpost _ _ _ _ _ _ ⟨Cond.after_iff.mpr rfl, Cond.after_iff.mpr (eq_i res_at (Term.int_eval (1)) rfl), trivial⟩ ⟨hq.1, hq.2.1, (hq.2.2.sift fun y hy => Or.inr (N y hy)).mono (by decide) (by decide)⟩⟩
theorem main_1_1 : Claimed_1_1 := comes_1 fun _ _ _ _ _ _ h hF => ⟨h.1, hF⟩
theorem main_1_2 : Claimed_1_2 := comes_1 fun _ _ _ _ _ _ h hF => ⟨h.2.1, hF⟩
end Jvm.Pilot.@@N@@
namespace Jvm.Pilot.@@N@@
open Jvm Jvm.ClassFile Sem Op Lib Jvm.Free Jvm.Stand Jvm.Pilot.@@N@@.Jvm.D
/-! MADE BY PROGRAM (witnessworld.py) out of the Statement's table words and the real class files: 9 classes; the members and pool entries that the words name. The judged class is class 1, her method 3. -/
namespace start1
open Jvm.ClassFile
def u (s : String) : CpInfo := .utf8 (stringToUtf16 s)
/-- a pool by its gaps: so many unusable entries, then the entry; so many at the end -/
def gap : Nat → List CpInfo → List CpInfo
  | 0, r => r
  | n + 1, r => .unusable :: gap n r
def poolList (es : List (Nat × CpInfo)) (last : Nat) : List CpInfo := es.foldr (fun e r => gap e.1 (e.2 :: r)) (gap last [])
def pool (es : List (Nat × CpInfo)) (last : Nat) : Array CpInfo := ⟨poolList es last⟩
def fileOf (pool : Array CpInfo) (this : Nat) (attrs : Array Attribute := #[]) (ms : Array MethodInfo := #[]) (fl : Nat := 33) (sup : Nat := 0) (ifs : Array Nat := #[]) (fds : Array FieldInfo := #[]) : ClassFile where
  minorVersion := 0
  majorVersion := 65
  constantPool := pool
  accessFlags := fl
  thisClass := this
  superClass := sup
  interfaces := ifs
  fields := fds
  methods := ms
  attributes := attrs
def plain (name : String) (sup : Option ClassId) : Class where
  name := name
  kind := .ordinary
  loader := none
  accessFlags := 33
  super := sup
  interfaces := #[]
  cf := none
  fields := #[]
  methods := #[]
  instanceTypes := #[]
  staticTypes := #[]
  resolved := #[]
  callSites := []
  init := .initialized
  statics := none
  mirror := none

def pool0 : Array CpInfo := pool [(5, u "<init>"), (0, u "()V"), (1, .class_ 10), (1, u "java/lang/Object")] 113

def k0m0 : Method := { name := "<init>", desc := "()V", sig := { parameters := [], returnType := none }, accessFlags := 1, code := none }
/-- java/lang/Object -/
def k0 : Class := { plain "java/lang/Object" none with
  accessFlags := 33
  interfaces := #[]
  cf := some (fileOf pool0 8 #[] #[{ accessFlags := 1, nameIndex := 5, descriptorIndex := 6, attributes := #[] }] 33 0 #[] #[])
  fields := #[]
  methods := #[k0m0]
  instanceTypes := #[]
  staticTypes := #[]
  resolved := Array.replicate 124 none
  statics := none }

def pool1 : Array CpInfo := pool [(2, .class_ 4), (1, u "java/lang/Object"), (0, u "<init>"), (0, u "()V"), (0, .integer 2147483647), (0, .methodref 9 10), (0, .class_ 11), (0, .nameAndType 12 13), (0, u "com/example/stemcycle/stemcycle/EdgeLengthsReversePinLaw"), (0, u "mod"), (0, u "(II)I"), (0, .methodref 9 15), (0, .nameAndType 16 17), (0, u "city0"), (0, u "(III)I"), (0, .methodref 19 20), (0, .class_ 21), (0, .nameAndType 22 23), (0, u "com/example/stemcycle/stemcycle/EdgeLengths"), (0, u "reverse"), (0, u "([I[I[III)V"), (0, .methodref 9 25), (0, .nameAndType 26 27), (0, u "at"), (0, u "(I[I[I[IIIIIII)Z"), (2, u "law"), (0, u "(IIIIII)Z")] 5

def k1m0 : Method := { name := "<init>", desc := "()V", sig := { parameters := [], returnType := none }, accessFlags := 1, code := none }
def k1c1 : Code := { maxStack := 2, maxLocals := 2, code := method_2_code, exceptionTable := #[], attributes := #[] }
def k1m1 : Method := { name := "mod", desc := "(II)I", sig := { parameters := [.int, .int], returnType := some .int }, accessFlags := 10, code := some k1c1 }
def k1c2 : Code := { maxStack := 2, maxLocals := 3, code := method_3_code, exceptionTable := #[], attributes := #[] }
def k1m2 : Method := { name := "city0", desc := "(III)I", sig := { parameters := [.int, .int, .int], returnType := some .int }, accessFlags := 10, code := some k1c2 }
def k1c3 : Code := { maxStack := 10, maxLocals := 13, code := code, exceptionTable := #[], attributes := #[] }
def k1m3 : Method := { name := "law", desc := "(IIIIII)Z", sig := { parameters := [.int, .int, .int, .int, .int, .int], returnType := some .boolean }, accessFlags := 9, code := some k1c3 }
def k1c4 : Code := { maxStack := 3, maxLocals := 16, code := method_5_code, exceptionTable := #[], attributes := #[] }
def k1m4 : Method := { name := "at", desc := "(I[I[I[IIIIIII)Z", sig := { parameters := [.int, (.array .int), (.array .int), (.array .int), .int, .int, .int, .int, .int, .int], returnType := some .boolean }, accessFlags := 10, code := some k1c4 }
/-- com/example/stemcycle/stemcycle/EdgeLengthsReversePinLaw -/
def k1 : Class := { plain "com/example/stemcycle/stemcycle/EdgeLengthsReversePinLaw" (some 0) with
  accessFlags := 49
  interfaces := #[]
  cf := some (fileOf pool1 9 #[] #[{ accessFlags := 1, nameIndex := 5, descriptorIndex := 6, attributes := #[] }, { accessFlags := 10, nameIndex := 12, descriptorIndex := 13, attributes := #[] }, { accessFlags := 10, nameIndex := 16, descriptorIndex := 17, attributes := #[] }, { accessFlags := 9, nameIndex := 30, descriptorIndex := 31, attributes := #[] }, { accessFlags := 10, nameIndex := 26, descriptorIndex := 27, attributes := #[] }] 49 2 #[] #[])
  fields := #[]
  methods := #[k1m0, k1m1, k1m2, k1m3, k1m4]
  instanceTypes := #[]
  staticTypes := #[]
  resolved := Array.replicate 37 none
  statics := none }

def pool2 : Array CpInfo := pool [(2, .class_ 4), (1, u "java/lang/Object"), (0, u "<init>"), (0, u "()V"), (6, .class_ 14), (0, u "com/example/stemcycle/stemcycle/EdgeLengths"), (7, u "reverse"), (1, u "([I[I[III)V")] 2

def k2m0 : Method := { name := "<init>", desc := "()V", sig := { parameters := [], returnType := none }, accessFlags := 2, code := none }
def k2c1 : Code := { maxStack := 5, maxLocals := 9, code := prog_8_method_4_code, exceptionTable := #[], attributes := #[] }
def k2m1 : Method := { name := "reverse", desc := "([I[I[III)V", sig := { parameters := [(.array .int), (.array .int), (.array .int), .int, .int], returnType := none }, accessFlags := 8, code := some k2c1 }
/-- com/example/stemcycle/stemcycle/EdgeLengths -/
def k2 : Class := { plain "com/example/stemcycle/stemcycle/EdgeLengths" (some 0) with
  accessFlags := 48
  interfaces := #[]
  cf := some (fileOf pool2 13 #[] #[{ accessFlags := 2, nameIndex := 5, descriptorIndex := 6, attributes := #[] }, { accessFlags := 8, nameIndex := 22, descriptorIndex := 24, attributes := #[] }] 48 2 #[] #[])
  fields := #[]
  methods := #[k2m0, k2m1]
  instanceTypes := #[]
  staticTypes := #[]
  resolved := Array.replicate 27 none
  statics := none }

def pool3 : Array CpInfo := pool [(1, u "java/lang/Cloneable"), (0, .class_ 1), (0, u "java/lang/Object"), (0, .class_ 3)] 3

/-- java/lang/Cloneable -/
def k3 : Class := { plain "java/lang/Cloneable" (some 0) with
  accessFlags := 1537
  interfaces := #[]
  cf := some (fileOf pool3 2 #[] #[] 1537 4 #[] #[])
  fields := #[]
  methods := #[]
  instanceTypes := #[]
  staticTypes := #[]
  resolved := Array.replicate 8 none
  statics := none }

def pool4 : Array CpInfo := pool [(1, u "java/io/Serializable"), (0, .class_ 1), (0, u "java/lang/Object"), (0, .class_ 3)] 3

/-- java/io/Serializable -/
def k4 : Class := { plain "java/io/Serializable" (some 0) with
  accessFlags := 1537
  interfaces := #[]
  cf := some (fileOf pool4 2 #[] #[] 1537 4 #[] #[])
  fields := #[]
  methods := #[]
  instanceTypes := #[]
  staticTypes := #[]
  resolved := Array.replicate 8 none
  statics := none }

/-- the primitive byte -/
def k5 : Class := { plain "byte" none with kind := .primitive 'B', accessFlags := 0x411 }
/-- [B -/
def k6 : Class := { plain "[B" (some 0) with kind := .array 5 .byte, interfaces := #[3, 4], accessFlags := 1041 }

/-- the primitive int -/
def k7 : Class := { plain "int" none with kind := .primitive 'I', accessFlags := 0x411 }
/-- [I -/
def k8 : Class := { plain "[I" (some 0) with kind := .array 7 .int, interfaces := #[3, 4], accessFlags := 1041 }

def heap : Heap := #[]
def classes : Array Class := #[k0, k1, k2, k3, k4, k5, k6, k7, k8]
def interned : List (Array UInt16 × Addr) := []
def slotsUsed : Nat := 0
def theMethod : MethodId := ⟨1, 3⟩
def args0 : Array Value := #[.int 5, .int 2, .int 9, .int 1, .int 4, .int 1]
def aboutOver (below : List Frame) : State where
  vm := { classes := classes, interned := interned.toArray }
  heap := heap
  slotsUsed := slotsUsed
  threads := #[{ frames := .invoking theMethod args0 :: below }]
def below0 : List Frame := [.native { method := ⟨0, 0⟩, args := #[] }]
def about1 : State := aboutOver below0
def p0 : Program := .bare "" "" ""
def e0 : Env := launch0.env 0 0 0
theorem w_frames : about1.frames = Frame.invoking theMethod args0 :: below0 := rfl
set_option maxRecDepth 65536 in
theorem w_args : argsFit about1.vm theMethod args0 = true := by decide +kernel
set_option maxRecDepth 65536 in
theorem w_heap : heapFits about1 = true := by decide +kernel
set_option maxRecDepth 65536 in
theorem w_runnable : about1.curStatus? = some .runnable := by decide +kernel
set_option maxRecDepth 65536 in
theorem w_alone : about1.alone = true := by decide +kernel
set_option maxRecDepth 65536 in
theorem w_named : about1.methodNamed? x = some theMethod := by decide +kernel
set_option maxRecDepth 65536 in
theorem w_hears : about1.hears theMethod below0 = true := by decide +kernel
set_option maxRecDepth 65536 in
theorem w_ripe : about1.ripe theMethod args0 below0 = true := by decide +kernel
theorem w_running : about1.status = .running := rfl
set_option maxRecDepth 65536 in
theorem w_room : about1.hasRoom e0.platform room_1 = true :=
  launch0.hasRoom_least _ room_1 (by decide +kernel) (by decide +kernel) (by decide +kernel) (by decide +kernel) (by decide +kernel) (by decide +kernel)
theorem allAtoms_all (ts : List Jvm.Cond) (a : Array Jvm.Value) (st : Jvm.State) : (allAtoms ts).before a st = ts.all (fun c => c.before a st) := by
  induction ts with
  | nil => rfl
  | cons c t ih =>
    show (Jvm.Cond.and c (allAtoms t)).before a st = _
    rw [Jvm.Cond.before_and, ih, List.all_cons]
def words1 : List Jvm.Cond := Jvm.Cond.code x code maxLocals ret :: tables_1
/-- a 'code' word, met by the world's own term for the bytes: nothing is compared byte by byte -/
theorem code_word {y : MethodName} {bytes : ByteArray} {mx : Nat} {rt : Option FieldType} {a : Array Value} {s : State} {m : MethodId} {meth : Method} {c : Code} (h1 : s.methodNamed? y = some m) (h2 : s.vm.method? m = some meth) (h3 : meth.code = some c) (h4 : c.code = bytes)
    (h5 : (c.maxLocals == mx && c.exceptionTable.isEmpty && decide (c.maxStack ≤ mostOperands) && decide (meth.sig.returnType = rt) && !meth.locks && decide (parseMethodDescriptor y.desc = some meth.sig)) = true) : (Jvm.Cond.code y bytes mx rt).before a s = true := by
  simp only [Bool.and_eq_true, beq_iff_eq, Bool.not_eq_true', decide_eq_true_eq] at h5
  obtain ⟨⟨⟨⟨⟨g1, g2⟩, g3⟩, g4⟩, g5⟩, g6⟩ := h5
  simp [Cond.before, Cond.holds, Cond.value, h1, h2, h3, h4, g1, g2, g3, g4, g5, g6]
def isCode : Jvm.Cond → Bool
  | .code _ _ _ _ => true
  | _ => false
theorem all_split {L : List Jvm.Cond} {P : Jvm.Cond → Bool} (h1 : L.all (fun c => isCode c || P c) = true) (h2 : ∀ c ∈ L.filter isCode, P c = true) : L.all P = true := by
  refine List.all_eq_true.mpr fun c hc => ?_
  have h := List.all_eq_true.mp h1 c hc
  rcases Bool.eq_false_or_eq_true (isCode c) with hi | hi
  · exact h2 c (List.mem_filter.mpr ⟨hc, hi⟩)
  · simpa [hi] using h
set_option maxRecDepth 65536 in
theorem w_c0 : (Jvm.Cond.code x code maxLocals ret).before args0 about1 = true := code_word (m := ⟨1, 3⟩) (meth := k1m3) (c := k1c3) (by decide +kernel) rfl rfl rfl (by decide +kernel)
set_option maxRecDepth 65536 in
theorem w_c1 : (Jvm.Cond.code ({ cls := "com/example/stemcycle/stemcycle/EdgeLengthsReversePinLaw", name := "mod", desc := "(II)I" } : Jvm.MethodName) method_2_code (2 : Nat) (Option.some Jvm.ClassFile.FieldType.int)).before args0 about1 = true := code_word (m := ⟨1, 1⟩) (meth := k1m1) (c := k1c1) (by decide +kernel) rfl rfl rfl (by decide +kernel)
set_option maxRecDepth 65536 in
theorem w_c2 : (Jvm.Cond.code ({ cls := "com/example/stemcycle/stemcycle/EdgeLengthsReversePinLaw", name := "city0", desc := "(III)I" } : Jvm.MethodName) method_3_code (3 : Nat) (Option.some Jvm.ClassFile.FieldType.int)).before args0 about1 = true := code_word (m := ⟨1, 2⟩) (meth := k1m2) (c := k1c2) (by decide +kernel) rfl rfl rfl (by decide +kernel)
set_option maxRecDepth 65536 in
theorem w_c3 : (Jvm.Cond.code ({ cls := "com/example/stemcycle/stemcycle/EdgeLengths", name := "reverse", desc := "([I[I[III)V" } : Jvm.MethodName) prog_8_method_4_code (9 : Nat) (Option.none : Option Jvm.ClassFile.FieldType)).before args0 about1 = true := code_word (m := ⟨2, 1⟩) (meth := k2m1) (c := k2c1) (by decide +kernel) rfl rfl rfl (by decide +kernel)
set_option maxRecDepth 65536 in
theorem w_c4 : (Jvm.Cond.code ({ cls := "com/example/stemcycle/stemcycle/EdgeLengthsReversePinLaw", name := "at", desc := "(I[I[I[IIIIIII)Z" } : Jvm.MethodName) method_5_code (16 : Nat) (Option.some Jvm.ClassFile.FieldType.boolean)).before args0 about1 = true := code_word (m := ⟨1, 4⟩) (meth := k1m4) (c := k1c4) (by decide +kernel) rfl rfl rfl (by decide +kernel)
def codes1 : List Jvm.Cond := [Jvm.Cond.code x code maxLocals ret, Jvm.Cond.code ({ cls := "com/example/stemcycle/stemcycle/EdgeLengthsReversePinLaw", name := "mod", desc := "(II)I" } : Jvm.MethodName) method_2_code (2 : Nat) (Option.some Jvm.ClassFile.FieldType.int), Jvm.Cond.code ({ cls := "com/example/stemcycle/stemcycle/EdgeLengthsReversePinLaw", name := "city0", desc := "(III)I" } : Jvm.MethodName) method_3_code (3 : Nat) (Option.some Jvm.ClassFile.FieldType.int), Jvm.Cond.code ({ cls := "com/example/stemcycle/stemcycle/EdgeLengths", name := "reverse", desc := "([I[I[III)V" } : Jvm.MethodName) prog_8_method_4_code (9 : Nat) (Option.none : Option Jvm.ClassFile.FieldType), Jvm.Cond.code ({ cls := "com/example/stemcycle/stemcycle/EdgeLengthsReversePinLaw", name := "at", desc := "(I[I[I[IIIIIII)Z" } : Jvm.MethodName) method_5_code (16 : Nat) (Option.some Jvm.ClassFile.FieldType.boolean)]
set_option maxRecDepth 65536 in
theorem codes_eq : words1.filter isCode = codes1 := rfl
theorem w_codes : ∀ c ∈ words1.filter isCode, c.before args0 about1 = true := by
  rw [codes_eq]
  intro c hc
  simp only [codes1, List.mem_cons, List.not_mem_nil, or_false] at hc
  rcases hc with rfl | rfl | rfl | rfl | rfl
  · exact w_c0
  · exact w_c1
  · exact w_c2
  · exact w_c3
  · exact w_c4
set_option maxRecDepth 65536 in
theorem w_t1 : words1.all (fun c => isCode c || c.before args0 about1) = true := by decide +kernel
theorem w_tables : (allAtoms (Jvm.Cond.code x code maxLocals ret :: tables_1)).before args0 about1 = true := by
  rw [allAtoms_all]
  show words1.all (fun c => c.before args0 about1) = true
  refine all_split ?_ w_codes
  rw [w_t1]
set_option maxRecDepth 65536 in
theorem w_case : (Jvm.Cond.and given_1 narrow_1).before args0 about1 = true := by decide +kernel
theorem w_applies : (headSpec (Jvm.Cond.code x code maxLocals ret :: tables_1) room_1).applies x e0.platform about1 = true :=
  (Spec.applies_iff w_frames).mpr ⟨w_running, w_runnable, w_alone, w_named, w_hears, w_ripe, w_room, w_tables⟩
theorem atStart : AtStart classFile x code maxLocals ret World_1 tables_1 room_1 Calls_1 rest_1 Pre_1 launch0 p0 e0 about1 theMethod args0 below0 :=
  ⟨lists_1, trivial, launch0.admits_env _ _ _, launch0.least_env, fairChoices_fair.cas, fairChoices_fair.clock, w_frames, w_args, w_heap, w_applies, trivial, trivial, w_case⟩
end start1
theorem witness_1 : WitnessClaimed_1 := ⟨start1.p0, start1.e0, start1.about1, start1.theMethod, start1.args0, start1.below0, start1.atStart⟩
end Jvm.Pilot.@@N@@
