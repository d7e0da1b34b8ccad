import JvmDerived
import JvmDerived.Pilot.@@N@@Statement
import JvmDerived.Pilot.@@N@@Code
set_option linter.unusedVariables false
set_option linter.unusedSimpArgs false
namespace Jvm.GoKit
open Sem ClassFile Op Lib Jvm.Stand Jvm.Free Jvm.LawKit Jvm.RoadKit
/-! The walk as a backward predicate over a small abstract machine: refs count the cells made since the law began. -/
abbrev GCell := (String × List (String × String × Value)) ⊕ (FieldType × List Value)
abbrev ob (C : String) (fs : List (String × String × Value)) : GCell := Sum.inl (C, fs)
abbrev ar (t : FieldType) (vs : List Value) : GCell := Sum.inr (t, vs)
def upV (b : Nat) : Value → Value
  | .ref k => .ref (b + k)
  | .int x => .int x
  | .long x => .long x
  | .float x => .float x
  | .double x => .double x
  | .null => .null
  | .retAddr x => .retAddr x
def upS (b : Nat) : Slot → Slot
  | .val v => .val (upV b v)
  | .unset => .unset
  | .second => .second
theorem cat_up (b : Nat) (v : Value) : (upV b v).category = v.category := by cases v <;> rfl
theorem isRef_up (b : Nat) (v : Value) : (upV b v).isRef = v.isRef := by cases v <;> rfl
def CellOk (Z : State) (a0 : Array Value) (b : Nat) (h : Heap) (a : Addr) : GCell → Prop
  | Sum.inl (C, fs) => Exa Z h a C ∧ (∀ f ∈ fs, Fld Z h a C f.1 f.2.1 (upV b f.2.2) ∧ Laid Z a0 C C f.1 f.2.1 ∧ ∃ t, parseFieldDescriptor f.2.1 = some t) ∧ (fs.map (·.1)).Nodup
  | Sum.inr (ty, vs) => ∃ c : Cell, Arr Z h a c ty ∧ c.slots = (vs.map (upV b)).toArray
def Rel (Z : State) (a0 : Array Value) (b : Nat) (H : List GCell) (h : Heap) : Prop :=
  h.size = b + H.length ∧ ∀ (i : Nat) (mc : GCell), H[i]? = some mc → CellOk Z a0 b h (b + i) mc
section Rels
variable {Z : State} {a0 : Array Value} {b : Nat} {H : List GCell} {h h' : Heap} {a a' : Addr} {sl : Nat} {v : Value} {mc : GCell}
theorem CellOk.ext (E : Ext h h') (K : CellOk Z a0 b h a mc) : CellOk Z a0 b h' a mc := by
  rcases mc with ⟨C, fs⟩ | ⟨ty, vs⟩
  · obtain ⟨k1, k2, k3⟩ := K
    exact ⟨k1.ext E, fun f hf => ⟨(k2 f hf).1.ext E, (k2 f hf).2⟩, k3⟩
  · obtain ⟨c, A, e⟩ := K
    exact ⟨c, A.ext E, e⟩
theorem CellOk.other (W : Wr h h' a sl v) (ne : a' ≠ a) (K : CellOk Z a0 b h a' mc) : CellOk Z a0 b h' a' mc := by
  rcases mc with ⟨C, fs⟩ | ⟨ty, vs⟩
  · obtain ⟨k1, k2, k3⟩ := K
    exact ⟨k1.wr W, fun f hf => ⟨(k2 f hf).1.other W (Or.inl ne), (k2 f hf).2⟩, k3⟩
  · obtain ⟨c, A, e⟩ := K
    exact ⟨c, A.other W ne, e⟩
theorem Rel.nil (h : Heap) : Rel Z a0 h.size [] h := ⟨rfl, fun (i : Nat) mc q => by simp at q⟩
theorem Rel.push (RR : Rel Z a0 b H h) (E : Ext h h') (hs : h'.size = h.size + 1) (K : CellOk Z a0 b h' (b + H.length) mc) : Rel Z a0 b (H ++ [mc]) h' := by
  refine ⟨by rw [hs, RR.1]; simp; omega, fun (i : Nat) mc' q => ?_⟩
  rw [List.getElem?_append] at q
  split at q
  · exact (RR.2 i mc' q).ext E
  · rename_i hi
    have e : i = H.length := by
      by_cases e : i - H.length = 0
      · omega
      · rw [List.getElem?_eq_none (by simp; omega)] at q; cases q
    subst e
    simp at q
    exact q ▸ K
theorem Rel.wr (RR : Rel Z a0 b H h) {i : Nat} (W : Wr h h' (b + i) sl v) (K : CellOk Z a0 b h' (b + i) mc) : Rel Z a0 b (H.set i mc) h' := by
  refine ⟨by rw [W.size, RR.1]; simp, fun (j : Nat) mc' q => ?_⟩
  rw [List.getElem?_set] at q
  split at q
  · rename_i e
    subst e
    split at q
    · cases q; exact K
    · cases q
  · rename_i e
    exact (RR.2 j mc' q).other W (fun z => e (Nat.add_left_cancel z).symm)
theorem mem_setF {n d : String} {o : Value} : ∀ (fs : List (String × String × Value)) (j : Nat), (fs.map (·.1)).Nodup → fs[j]? = some (n, d, o) → ∀ f ∈ fs.set j (n, d, v), f = (n, d, v) ∨ (f ∈ fs ∧ f.1 ≠ n)
  | [], _, _, q, _, _ => by simp at q
  | g :: gs, 0, nd, q, f, hf => by
    simp only [List.getElem?_cons_zero, Option.some.injEq] at q
    subst q
    simp only [List.map_cons, List.nodup_cons] at nd
    simp only [List.set_cons_zero, List.mem_cons] at hf
    rcases hf with rfl | hf
    · exact Or.inl rfl
    · refine Or.inr ⟨List.mem_cons_of_mem _ hf, fun e => nd.1 ?_⟩
      exact List.mem_map.mpr ⟨f, hf, e⟩
  | g :: gs, j + 1, nd, q, f, hf => by
    simp only [List.getElem?_cons_succ] at q
    simp only [List.map_cons, List.nodup_cons] at nd
    simp only [List.set_cons_succ, List.mem_cons] at hf
    rcases hf with rfl | hf
    · refine Or.inr ⟨List.mem_cons_self .., fun e => nd.1 ?_⟩
      exact List.mem_map.mpr ⟨_, List.mem_of_getElem? q, e.symm⟩
    · rcases mem_setF gs j nd.2 q f hf with e | ⟨e1, e2⟩
      · exact Or.inl e
      · exact Or.inr ⟨List.mem_cons_of_mem _ e1, e2⟩
theorem map_setF {n d : String} {o : Value} : ∀ (fs : List (String × String × Value)) (j : Nat), fs[j]? = some (n, d, o) → (fs.set j (n, d, v)).map (·.1) = fs.map (·.1)
  | [], _, q => by simp at q
  | g :: gs, 0, q => by
    simp only [List.getElem?_cons_zero, Option.some.injEq] at q
    subst q; rfl
  | g :: gs, j + 1, q => by
    simp only [List.getElem?_cons_succ] at q
    simp only [List.set_cons_succ, List.map_cons, map_setF gs j q]
theorem CellOk.fset {C n d : String} {fs : List (String × String × Value)} {j : Nat} {o : Value} (K : CellOk Z a0 b h a (ob C fs)) (q : fs[j]? = some (n, d, o)) (W : Wr h h' a (Jvm.RoadKit.slotOf Z C n d) (upV b v)) : CellOk Z a0 b h' a (ob C (fs.set j (n, d, v))) := by
  obtain ⟨k1, k2, k3⟩ := K
  have m0 := List.mem_of_getElem? q
  obtain ⟨F, L, t, ht⟩ := k2 _ m0
  refine ⟨k1.wr W, fun f hf => ?_, by rw [map_setF fs j q]; exact k3⟩
  rcases mem_setF fs j k3 q f hf with rfl | ⟨e1, e2⟩
  · exact ⟨F.same W, L, t, ht⟩
  · obtain ⟨F', L', t', ht'⟩ := k2 _ e1
    exact ⟨F'.other W (Or.inr (slot_ne L' L e2 ht' ht)), L', t', ht'⟩
end Rels
theorem ne_oa {H : List GCell} {i j : Nat} {C : String} {fs : List (String × String × Value)} {t : FieldType} {vs : List Value} (h1 : H[i]? = some (ob C fs)) (h2 : H[j]? = some (ar t vs)) : i ≠ j := fun e => by subst e; rw [h1] at h2; cases h2
theorem get_ne {H : List GCell} {i j : Nat} {m m' : GCell} (h : H[j]? = some m) (ne : i ≠ j) : (H.set i m')[j]? = some m := by rw [List.getElem?_set_ne ne]; exact h
theorem get_eq {H : List GCell} {i : Nat} {m m' : GCell} (h : H[i]? = some m) : (H.set i m')[i]? = some m' := by
  have := (List.getElem?_eq_some_iff.mp h).1
  simp [this]
theorem get_app {H H2 : List GCell} {i : Nat} {m : GCell} (h : H[i]? = some m) : (H ++ H2)[i]? = some m := by
  have := (List.getElem?_eq_some_iff.mp h).1
  rw [List.getElem?_append_left this]; exact h
theorem get_last {H : List GCell} {m : GCell} : (H ++ [m])[H.length]? = some m := by simp
theorem set_same {α : Type} {l : List α} {k : Nat} {v : α} (h : l[k]? = some v) : l.set k v = l := by
  apply List.ext_getElem?
  intro j
  rw [List.getElem?_set]
  split
  · rename_i e; subst e
    obtain ⟨h1, h2⟩ := List.getElem?_eq_some_iff.mp h
    rw [if_pos h1, h]
  · rfl
def Dc (bytes : ByteArray) (pc : Nat) (i : Instr) (n nx : Nat) : Prop := decode bytes pc = .ok (i, n) ∧ pc + n = nx
theorem wd {W : List Jvm.Cond} {d : Jvm.Cond} (k : Nat) (h : W[k]? = some d) : d ∈ W := List.mem_of_getElem? h
def QQ (Z : State) (a0 : Array Value) (b : Nat) (Post : Option Value → List GCell → Prop) (v : Option Value) (h : Heap) (LL : List Loc) : Prop :=
  Fr b LL ∧ ∃ v' H', v = Option.map (upV b) v' ∧ Rel Z a0 b H' h ∧ Post v' H'
/-- a method's contract over the abstract machine -/
def Met (l : Launch) (Z : State) (a0 : Array Value) (b : Nat) (y : MethodName) (bytes : ByteArray) (maxL : Nat) (ret : Option FieldType) (rm : Room) (as : List Value) (H : List GCell) (Post : Option Value → List GCell → Prop) : Prop :=
  ∀ h, Rel Z a0 b H h → ∀ ws, MetFree l y (head1 (Jvm.Cond.code y bytes maxL ret :: ws) rm) (fun a U => a = (as.map (upV b)).toArray ∧ Z.Warmed39 U.vm ∧ U.heap = h) (fun _ _ _ _ _ => True)
    (fun _ U o U' => ∃ v LL, o = .returned v ∧ QQ Z a0 b Post v U'.heap LL ∧ FrameEnd U o U' LL rm.cells rm.slots)
/-- where a body is walked -/
def Cx (p : Program) (l : Launch) (e : Env) (R : Room) (s : State) (m : MethodId) (args : Array Value) (below : List Frame) (meth : Method) (c : Code) (Z : State) (a0 : Array Value) (W : List Jvm.Cond) (b : Nat) (y : MethodName) (bytes : ByteArray) (nL : Nat) (ret : Option FieldType) (Post : Option Value → List GCell → Prop) : Prop :=
  p.tables.exec = Jvm.exec ∧ Z.Warmed39 s.vm ∧ s.vm.findClass y.cls = some m.cls ∧ c.code = bytes ∧ c.maxLocals = nL ∧ meth.sig.returnType = ret ∧ meth.locks = false ∧ meth.name = y.name ∧ (∀ d ∈ W, d.before a0 Z = true)
section Walk
variable {p : Program} {l : Launch} {e : Env} {R : Room} {s : State} {m : MethodId} {args : Array Value} {below : List Frame} {meth : Method} {c : Code} {Z : State} {a0 : Array Value} {W : List Jvm.Cond} {b : Nat} {y : MethodName} {bytes : ByteArray} {nL : Nat} {ret : Option FieldType} {Post : Option Value → List GCell → Prop}
theorem Cx.exec (C : Cx p l e R s m args below meth c Z a0 W b y bytes nL ret Post) : p.tables.exec = Jvm.exec := C.1
theorem Cx.warm (C : Cx p l e R s m args below meth c Z a0 W b y bytes nL ret Post) : Z.Warmed39 s.vm := C.2.1
theorem Cx.own (C : Cx p l e R s m args below meth c Z a0 W b y bytes nL ret Post) : s.vm.findClass y.cls = some m.cls := C.2.2.1
theorem Cx.bys (C : Cx p l e R s m args below meth c Z a0 W b y bytes nL ret Post) : c.code = bytes := C.2.2.2.1
theorem Cx.ml (C : Cx p l e R s m args below meth c Z a0 W b y bytes nL ret Post) : c.maxLocals = nL := C.2.2.2.2.1
theorem Cx.rets (C : Cx p l e R s m args below meth c Z a0 W b y bytes nL ret Post) : meth.sig.returnType = ret := C.2.2.2.2.2.1
theorem Cx.nolock (C : Cx p l e R s m args below meth c Z a0 W b y bytes nL ret Post) : meth.locks = false := C.2.2.2.2.2.2.1
theorem Cx.named (C : Cx p l e R s m args below meth c Z a0 W b y bytes nL ret Post) : meth.name = y.name := C.2.2.2.2.2.2.2.1
theorem Cx.hw (C : Cx p l e R s m args below meth c Z a0 W b y bytes nL ret Post) : ∀ d ∈ W, d.before a0 Z = true := C.2.2.2.2.2.2.2.2
abbrev frm (b : Nat) (m : MethodId) (pc : Nat) (L : List Slot) (S : List Value) : JFrame := mkF m pc (L.map (upS b)).toArray (S.map (upV b))
def Ends (p : Program) (e : Env) (s : State) (R : Room) (b : Nat) (Z : State) (a0 : Array Value) (Post : Option Value → List GCell → Prop) (below : List Frame) (A : State) : Prop :=
  ∃ s₂ o, Steps p.tables e below A s₂ ∧ s₂.status = .running ∧ Ended s₂ below o ∧ ∃ v LL, o = .returned v ∧ QQ Z a0 b Post v s₂.heap LL ∧ FrameEnd s o s₂ LL R.cells R.slots
/-- from here the body returns, and Post holds of what it returns and of the heap -/
def Go (C : Cx p l e R s m args below meth c Z a0 W b y bytes nL ret Post) (pc : Nat) (L : List Slot) (S : List Value) (H : List GCell) (cells slots : Nat) : Prop :=
  ∀ T locs, Stand p l e R s m args below meth c T locs cells slots → Fr b locs → Rel Z a0 b H T.heap → Ends p e s R b Z a0 Post below (T.setTop (frm b m pc L S))
variable {C : Cx p l e R s m args below meth c Z a0 W b y bytes nL ret Post} {pc nx tg : Nat} {L L' : List Slot} {S S' : List Value} {H H' : List GCell} {cells slots : Nat}
theorem Ends.back {A B : State} (st : ∀ t, Steps p.tables e below B t → Steps p.tables e below A t) (h : Ends p e s R b Z a0 Post below B) : Ends p e s R b Z a0 Post below A := by
  obtain ⟨s₂, o, hs, hr⟩ := h
  exact ⟨s₂, o, st _ hs, hr⟩
theorem Go.more {cells' slots' : Nat} (h : Go C pc L S H cells' slots') (hc : cells ≤ cells') (hs : slots ≤ slots') : Go C pc L S H cells slots :=
  fun T locs X N RR => h T locs (X.more hc hs) N RR
theorem go_pure (st : ∀ (T : State) locs cells slots, Stand p l e R s m args below meth c T locs cells slots → ∀ t, Steps p.tables e below (T.setTop (frm b m nx L' S')) t → Steps p.tables e below (T.setTop (frm b m pc L S)) t) (h : Go C nx L' S' H cells slots) : Go C pc L S H cells slots :=
  fun T locs X N RR => (h T locs X N RR).back (st T locs _ _ X)
/-- a boolean reckoned by branches: the ways come together at pc' -/
theorem go_cut {pc' : Nat} {P : Int32 → Prop} (h1 : (∀ mb, P mb → Go C pc' L (.int mb :: S) H cells slots) → Go C pc L S H cells slots) (h2 : ∀ mb, P mb → Go C pc' L (.int mb :: S) H cells slots) : Go C pc L S H cells slots := h1 h2
theorem getL {k : Nat} {o : Slot} (h : L[k]? = some o) : (L.map (upS b)).toArray[k]? = some (upS b o) := by simp [h]
theorem go_iload {k : Nat} {x : Int32} (hd : Dc bytes pc (.iload k) 2 nx) (hl : L[k]? = some (.val (.int x))) (h : Go C nx L (.int x :: S) H cells slots) : Go C pc L S H cells slots :=
  go_pure (fun T _ _ _ X t k => by obtain ⟨hd, rfl⟩ := hd; exact XS.iload X.here C.exec rfl (hb C.bys hd) (getL hl) k) h
theorem go_iloadN {k : Fin 4} {x : Int32} (hd : Dc bytes pc (.iload_n k) 1 nx) (hl : L[k.val]? = some (.val (.int x))) (h : Go C nx L (.int x :: S) H cells slots) : Go C pc L S H cells slots :=
  go_pure (fun T _ _ _ X t k => by obtain ⟨hd, rfl⟩ := hd; exact XS.iloadN X.here C.exec rfl (hb C.bys hd) (getL hl) k) h
theorem go_lload {k : Nat} {x : Int64} (hd : Dc bytes pc (.lload k) 2 nx) (hl : L[k]? = some (.val (.long x))) (h : Go C nx L (.long x :: S) H cells slots) : Go C pc L S H cells slots :=
  go_pure (fun T _ _ _ X t k => by obtain ⟨hd, rfl⟩ := hd; exact XT.lload X.here C.exec rfl (hb C.bys hd) (getL hl) k) h
theorem go_lloadN {k : Fin 4} {x : Int64} (hd : Dc bytes pc (.lload_n k) 1 nx) (hl : L[k.val]? = some (.val (.long x))) (h : Go C nx L (.long x :: S) H cells slots) : Go C pc L S H cells slots :=
  go_pure (fun T _ _ _ X t k => by obtain ⟨hd, rfl⟩ := hd; exact XT.lloadN X.here C.exec rfl (hb C.bys hd) (getL hl) k) h
theorem go_aload {k : Nat} {x : Value} (hd : Dc bytes pc (.aload k) 2 nx) (hl : L[k]? = some (.val x)) (hr : x.isRef = true) (h : Go C nx L (x :: S) H cells slots) : Go C pc L S H cells slots :=
  go_pure (fun T _ _ _ X t k => by obtain ⟨hd, rfl⟩ := hd; exact XS.aload X.here C.exec rfl (hb C.bys hd) (getL hl) ((isRef_up b x).trans hr) k) h
theorem go_aloadN {k : Fin 4} {x : Value} (hd : Dc bytes pc (.aload_n k) 1 nx) (hl : L[k.val]? = some (.val x)) (hr : x.isRef = true) (h : Go C nx L (x :: S) H cells slots) : Go C pc L S H cells slots :=
  go_pure (fun T _ _ _ X t k => by obtain ⟨hd, rfl⟩ := hd; exact XS.aloadN X.here C.exec rfl (hb C.bys hd) (getL hl) ((isRef_up b x).trans hr) k) h
theorem go_iconst {i : Int} {x : Int32} (hd : Dc bytes pc (.iconst i) 1 nx) (hv : Int32.ofInt i = x) (h : Go C nx L (.int x :: S) H cells slots) : Go C pc L S H cells slots :=
  go_pure (fun T _ _ _ X t k => by obtain ⟨hd, rfl⟩ := hd; subst hv; exact XS.iconst X.here C.exec rfl (hb C.bys hd) k) h
theorem go_bipush {i : Int} {x : Int32} (hd : Dc bytes pc (.bipush i) 2 nx) (hv : (Int8.ofInt i).toInt32 = x) (h : Go C nx L (.int x :: S) H cells slots) : Go C pc L S H cells slots :=
  go_pure (fun T _ _ _ X t k => by obtain ⟨hd, rfl⟩ := hd; subst hv; exact XS.bipush X.here C.exec rfl (hb C.bys hd) k) h
theorem go_sipush {i : Int} {x : Int32} (hd : Dc bytes pc (.sipush i) 3 nx) (hv : (Int16.ofInt i).toInt32 = x) (h : Go C nx L (.int x :: S) H cells slots) : Go C pc L S H cells slots :=
  go_pure (fun T _ _ _ X t k => by obtain ⟨hd, rfl⟩ := hd; subst hv; exact XS.sipush X.here C.exec rfl (hb C.bys hd) k) h
theorem go_lconst {i : Fin 2} {x : Int64} (hd : Dc bytes pc (.lconst i) 1 nx) (hv : Int64.ofNat i = x) (h : Go C nx L (.long x :: S) H cells slots) : Go C pc L S H cells slots :=
  go_pure (fun T _ _ _ X t k => by obtain ⟨hd, rfl⟩ := hd; subst hv; exact XT.lconst X.here C.exec rfl (hb C.bys hd) k) h
theorem go_null (hd : Dc bytes pc .aconst_null 1 nx) (h : Go C nx L (.null :: S) H cells slots) : Go C pc L S H cells slots :=
  go_pure (fun T _ _ _ X t k => by obtain ⟨hd, rfl⟩ := hd; exact XS.aconstNull X.here C.exec rfl (hb C.bys hd) k) h
theorem go_ldc {i : Nat} {x : Int32} (hd : Dc bytes pc (.ldc i) 2 nx) (w : Jvm.Cond.constant y.cls i x ∈ W) (h : Go C nx L (.int x :: S) H cells slots) : Go C pc L S H cells slots :=
  go_pure (fun T _ _ _ X t k => by obtain ⟨hd, rfl⟩ := hd; exact X.ldcInt C.exec C.own (mvT C.warm (C.hw _ w)) (g := frm b m pc L S) rfl (hb C.bys hd) _ k) h
theorem go_ldc2 {i : Nat} {x : Int64} (hd : Dc bytes pc (.ldc2_w i) 3 nx) (w : Jvm.Cond.constantLong y.cls i x ∈ W) (h : Go C nx L (.long x :: S) H cells slots) : Go C pc L S H cells slots :=
  go_pure (fun T _ _ _ X t k => by obtain ⟨hd, rfl⟩ := hd; exact X.ldc2Long C.exec C.own (mvT C.warm (C.hw _ w)) (g := frm b m pc L S) rfl (hb C.bys hd) _ k) h
theorem go_iadd {x : Int32} {z : Int32} (hd : Dc bytes pc .iadd 1 nx) (h : Go C nx L (.int (x + z) :: S) H cells slots) : Go C pc L (.int z :: .int x :: S) H cells slots :=
  go_pure (fun T _ _ _ X t k => by obtain ⟨hd, rfl⟩ := hd; exact XS.iadd X.here C.exec rfl (hb C.bys hd) rfl k) h
theorem go_ladd {x : Int64} {z : Int64} (hd : Dc bytes pc .ladd 1 nx) (h : Go C nx L (.long (x + z) :: S) H cells slots) : Go C pc L (.long z :: .long x :: S) H cells slots :=
  go_pure (fun T _ _ _ X t k => by obtain ⟨hd, rfl⟩ := hd; exact XT.ladd X.here C.exec rfl (hb C.bys hd) rfl k) h
theorem go_isub {x : Int32} {z : Int32} (hd : Dc bytes pc .isub 1 nx) (h : Go C nx L (.int (x - z) :: S) H cells slots) : Go C pc L (.int z :: .int x :: S) H cells slots :=
  go_pure (fun T _ _ _ X t k => by obtain ⟨hd, rfl⟩ := hd; exact XS.isub X.here C.exec rfl (hb C.bys hd) rfl k) h
theorem go_lsub {x : Int64} {z : Int64} (hd : Dc bytes pc .lsub 1 nx) (h : Go C nx L (.long (x - z) :: S) H cells slots) : Go C pc L (.long z :: .long x :: S) H cells slots :=
  go_pure (fun T _ _ _ X t k => by obtain ⟨hd, rfl⟩ := hd; exact XT.lsub X.here C.exec rfl (hb C.bys hd) rfl k) h
theorem go_imul {x : Int32} {z : Int32} (hd : Dc bytes pc .imul 1 nx) (h : Go C nx L (.int (x * z) :: S) H cells slots) : Go C pc L (.int z :: .int x :: S) H cells slots :=
  go_pure (fun T _ _ _ X t k => by obtain ⟨hd, rfl⟩ := hd; exact XS.imul X.here C.exec rfl (hb C.bys hd) rfl k) h
theorem go_lmul {x : Int64} {z : Int64} (hd : Dc bytes pc .lmul 1 nx) (h : Go C nx L (.long (x * z) :: S) H cells slots) : Go C pc L (.long z :: .long x :: S) H cells slots :=
  go_pure (fun T _ _ _ X t k => by obtain ⟨hd, rfl⟩ := hd; exact XT.lmul X.here C.exec rfl (hb C.bys hd) rfl k) h
theorem go_iand {x : Int32} {z : Int32} (hd : Dc bytes pc .iand 1 nx) (h : Go C nx L (.int (x &&& z) :: S) H cells slots) : Go C pc L (.int z :: .int x :: S) H cells slots :=
  go_pure (fun T _ _ _ X t k => by obtain ⟨hd, rfl⟩ := hd; exact XS.iand X.here C.exec rfl (hb C.bys hd) rfl k) h
theorem go_land {x : Int64} {z : Int64} (hd : Dc bytes pc .land 1 nx) (h : Go C nx L (.long (x &&& z) :: S) H cells slots) : Go C pc L (.long z :: .long x :: S) H cells slots :=
  go_pure (fun T _ _ _ X t k => by obtain ⟨hd, rfl⟩ := hd; exact XT.land X.here C.exec rfl (hb C.bys hd) rfl k) h
theorem go_ior {x : Int32} {z : Int32} (hd : Dc bytes pc .ior 1 nx) (h : Go C nx L (.int (x ||| z) :: S) H cells slots) : Go C pc L (.int z :: .int x :: S) H cells slots :=
  go_pure (fun T _ _ _ X t k => by obtain ⟨hd, rfl⟩ := hd; exact XT.ior X.here C.exec rfl (hb C.bys hd) rfl k) h
theorem go_lor {x : Int64} {z : Int64} (hd : Dc bytes pc .lor 1 nx) (h : Go C nx L (.long (x ||| z) :: S) H cells slots) : Go C pc L (.long z :: .long x :: S) H cells slots :=
  go_pure (fun T _ _ _ X t k => by obtain ⟨hd, rfl⟩ := hd; exact XT.lor X.here C.exec rfl (hb C.bys hd) rfl k) h
theorem go_ixor {x : Int32} {z : Int32} (hd : Dc bytes pc .ixor 1 nx) (h : Go C nx L (.int (x ^^^ z) :: S) H cells slots) : Go C pc L (.int z :: .int x :: S) H cells slots :=
  go_pure (fun T _ _ _ X t k => by obtain ⟨hd, rfl⟩ := hd; exact XT.ixor X.here C.exec rfl (hb C.bys hd) rfl k) h
theorem go_lxor {x : Int64} {z : Int64} (hd : Dc bytes pc .lxor 1 nx) (h : Go C nx L (.long (x ^^^ z) :: S) H cells slots) : Go C pc L (.long z :: .long x :: S) H cells slots :=
  go_pure (fun T _ _ _ X t k => by obtain ⟨hd, rfl⟩ := hd; exact XT.lxor X.here C.exec rfl (hb C.bys hd) rfl k) h
theorem go_ishl {x : Int32} {z : Int32} (hd : Dc bytes pc .ishl 1 nx) (h : Go C nx L (.int (x <<< (z &&& 31)) :: S) H cells slots) : Go C pc L (.int z :: .int x :: S) H cells slots :=
  go_pure (fun T _ _ _ X t k => by obtain ⟨hd, rfl⟩ := hd; exact XT.ishl X.here C.exec rfl (hb C.bys hd) rfl k) h
theorem go_ishr {x : Int32} {z : Int32} (hd : Dc bytes pc .ishr 1 nx) (h : Go C nx L (.int (x >>> (z &&& 31)) :: S) H cells slots) : Go C pc L (.int z :: .int x :: S) H cells slots :=
  go_pure (fun T _ _ _ X t k => by obtain ⟨hd, rfl⟩ := hd; exact XT.ishr X.here C.exec rfl (hb C.bys hd) rfl k) h
theorem go_iushr {x : Int32} {z : Int32} (hd : Dc bytes pc .iushr 1 nx) (h : Go C nx L (.int (XT.ushr x z) :: S) H cells slots) : Go C pc L (.int z :: .int x :: S) H cells slots :=
  go_pure (fun T _ _ _ X t k => by obtain ⟨hd, rfl⟩ := hd; exact XT.iushr X.here C.exec rfl (hb C.bys hd) rfl k) h
theorem go_lshl {x : Int64} {z : Int32} (hd : Dc bytes pc .lshl 1 nx) (h : Go C nx L (.long (x <<< (z.toInt64 &&& 63)) :: S) H cells slots) : Go C pc L (.int z :: .long x :: S) H cells slots :=
  go_pure (fun T _ _ _ X t k => by obtain ⟨hd, rfl⟩ := hd; exact XT.lshl X.here C.exec rfl (hb C.bys hd) rfl k) h
theorem go_lshr {x : Int64} {z : Int32} (hd : Dc bytes pc .lshr 1 nx) (h : Go C nx L (.long (x >>> (z.toInt64 &&& 63)) :: S) H cells slots) : Go C pc L (.int z :: .long x :: S) H cells slots :=
  go_pure (fun T _ _ _ X t k => by obtain ⟨hd, rfl⟩ := hd; exact XT.lshr X.here C.exec rfl (hb C.bys hd) rfl k) h
theorem go_lushr {x : Int64} {z : Int32} (hd : Dc bytes pc .lushr 1 nx) (h : Go C nx L (.long (XT.ushrL x z) :: S) H cells slots) : Go C pc L (.int z :: .long x :: S) H cells slots :=
  go_pure (fun T _ _ _ X t k => by obtain ⟨hd, rfl⟩ := hd; exact XT.lushr X.here C.exec rfl (hb C.bys hd) rfl k) h
theorem go_ineg {x : Int32} (hd : Dc bytes pc .ineg 1 nx) (h : Go C nx L (.int (-x) :: S) H cells slots) : Go C pc L (.int x :: S) H cells slots :=
  go_pure (fun T _ _ _ X t k => by obtain ⟨hd, rfl⟩ := hd; exact XS.ineg X.here C.exec rfl (hb C.bys hd) rfl k) h
theorem go_lneg {x : Int64} (hd : Dc bytes pc .lneg 1 nx) (h : Go C nx L (.long (-x) :: S) H cells slots) : Go C pc L (.long x :: S) H cells slots :=
  go_pure (fun T _ _ _ X t k => by obtain ⟨hd, rfl⟩ := hd; exact XT.lneg X.here C.exec rfl (hb C.bys hd) rfl k) h
theorem go_i2l {x : Int32} (hd : Dc bytes pc .i2l 1 nx) (h : Go C nx L (.long (x.toInt64) :: S) H cells slots) : Go C pc L (.int x :: S) H cells slots :=
  go_pure (fun T _ _ _ X t k => by obtain ⟨hd, rfl⟩ := hd; exact XT.i2l X.here C.exec rfl (hb C.bys hd) rfl k) h
theorem go_l2i {x : Int64} (hd : Dc bytes pc .l2i 1 nx) (h : Go C nx L (.int (x.toInt32) :: S) H cells slots) : Go C pc L (.long x :: S) H cells slots :=
  go_pure (fun T _ _ _ X t k => by obtain ⟨hd, rfl⟩ := hd; exact XT.l2i X.here C.exec rfl (hb C.bys hd) rfl k) h
theorem go_i2b {x : Int32} (hd : Dc bytes pc .i2b 1 nx) (h : Go C nx L (.int (x.toInt8.toInt32) :: S) H cells slots) : Go C pc L (.int x :: S) H cells slots :=
  go_pure (fun T _ _ _ X t k => by obtain ⟨hd, rfl⟩ := hd; exact XT.i2b X.here C.exec rfl (hb C.bys hd) rfl k) h
theorem go_i2c {x : Int32} (hd : Dc bytes pc .i2c 1 nx) (h : Go C nx L (.int (x.toUInt32.toUInt16.toUInt32.toInt32) :: S) H cells slots) : Go C pc L (.int x :: S) H cells slots :=
  go_pure (fun T _ _ _ X t k => by obtain ⟨hd, rfl⟩ := hd; exact XT.i2c X.here C.exec rfl (hb C.bys hd) rfl k) h
theorem go_i2s {x : Int32} (hd : Dc bytes pc .i2s 1 nx) (h : Go C nx L (.int (x.toInt16.toInt32) :: S) H cells slots) : Go C pc L (.int x :: S) H cells slots :=
  go_pure (fun T _ _ _ X t k => by obtain ⟨hd, rfl⟩ := hd; exact XT.i2s X.here C.exec rfl (hb C.bys hd) rfl k) h
theorem go_idiv {x z : Int32} (hd : Dc bytes pc .idiv 1 nx) (hz : z ≠ 0) (h : Go C nx L (.int (x / z) :: S) H cells slots) : Go C pc L (.int z :: .int x :: S) H cells slots :=
  go_pure (fun T _ _ _ X t k => by obtain ⟨hd, rfl⟩ := hd; exact XS.idiv X.here C.exec rfl (hb C.bys hd) rfl hz k) h
theorem go_irem {x z : Int32} (hd : Dc bytes pc .irem 1 nx) (hz : z ≠ 0) (h : Go C nx L (.int (x % z) :: S) H cells slots) : Go C pc L (.int z :: .int x :: S) H cells slots :=
  go_pure (fun T _ _ _ X t k => by obtain ⟨hd, rfl⟩ := hd; exact iremM X C.exec rfl (hb C.bys hd) rfl hz k) h
theorem go_dup {v : Value} (hd : Dc bytes pc .dup 1 nx) (hc : v.category = 1) (h : Go C nx L (v :: v :: S) H cells slots) : Go C pc L (v :: S) H cells slots :=
  go_pure (fun T _ _ _ X t k => by obtain ⟨hd, rfl⟩ := hd; exact XS.dup X.here C.exec rfl (hb C.bys hd) rfl ((cat_up b v).trans hc) k) h
theorem go_dupX1 {v w : Value} (hd : Dc bytes pc .dup_x1 1 nx) (hc : v.category = 1) (hc' : w.category = 1) (h : Go C nx L (v :: w :: v :: S) H cells slots) : Go C pc L (v :: w :: S) H cells slots :=
  go_pure (fun T _ _ _ X t k => by obtain ⟨hd, rfl⟩ := hd; exact XT.dupX1 X.here C.exec rfl (hb C.bys hd) rfl ((cat_up b v).trans hc) ((cat_up b w).trans hc') k) h
theorem go_dup2 {v w : Value} (hd : Dc bytes pc .dup2 1 nx) (hc : v.category = 1) (hc' : w.category = 1) (h : Go C nx L (v :: w :: v :: w :: S) H cells slots) : Go C pc L (v :: w :: S) H cells slots :=
  go_pure (fun T _ _ _ X t k => by obtain ⟨hd, rfl⟩ := hd; exact XT.dup2 X.here C.exec rfl (hb C.bys hd) rfl ((cat_up b v).trans hc) ((cat_up b w).trans hc') k) h
theorem go_dup2L {x : Int64} (hd : Dc bytes pc .dup2 1 nx) (h : Go C nx L (.long x :: .long x :: S) H cells slots) : Go C pc L (.long x :: S) H cells slots :=
  go_pure (fun T _ _ _ X t k => by obtain ⟨hd, rfl⟩ := hd; exact XT.dup2L X.here C.exec rfl (hb C.bys hd) rfl k) h
theorem go_pop {v : Value} (hd : Dc bytes pc .pop 1 nx) (hc : v.category = 1) (h : Go C nx L S H cells slots) : Go C pc L (v :: S) H cells slots :=
  go_pure (fun T _ _ _ X t k => by obtain ⟨hd, rfl⟩ := hd; exact XT.pop X.here C.exec rfl (hb C.bys hd) rfl ((cat_up b v).trans hc) k) h
theorem go_goto {o : Int} (hd : Dc bytes pc (.goto o) 3 nx) (ht : (pc : Int) + o = (tg : Nat)) (h : Go C tg L S H cells slots) : Go C pc L S H cells slots :=
  go_pure (fun T _ _ _ X t k => XS.goto X.here C.exec rfl (pc0 := pc) (pc' := tg) rfl (hb C.bys hd.1) (by omega) (by omega) k) h
theorem go_icmp {cd : ClassFile.Cond} {o : Int} {x z : Int32} (hd : Dc bytes pc (.if_icmp cd o) 3 nx) (ht : (pc : Int) + o = (tg : Nat)) (h1 : if_icmp.holds cd x z = true → Go C tg L S H cells slots) (h2 : if_icmp.holds cd x z = false → Go C nx L S H cells slots) : Go C pc L (.int z :: .int x :: S) H cells slots := by
  cases q : if_icmp.holds cd x z
  · exact go_pure (fun T _ _ _ X t k => by obtain ⟨hd, rfl⟩ := hd; exact XS.icmpNo X.here C.exec rfl (hb C.bys hd) rfl q k) (h2 q)
  · exact go_pure (fun T _ _ _ X t k => XS.icmpYes X.here C.exec rfl (pc0 := pc) (pc' := tg) rfl (hb C.bys hd.1) rfl q (by omega) (by omega) k) (h1 q)
theorem go_if {cd : ClassFile.Cond} {o : Int} {x : Int32} (hd : Dc bytes pc (.ifCond cd o) 3 nx) (ht : (pc : Int) + o = (tg : Nat)) (h1 : if_icmp.holds cd x 0 = true → Go C tg L S H cells slots) (h2 : if_icmp.holds cd x 0 = false → Go C nx L S H cells slots) : Go C pc L (.int x :: S) H cells slots := by
  cases q : if_icmp.holds cd x 0
  · exact go_pure (fun T _ _ _ X t k => by obtain ⟨hd, rfl⟩ := hd; exact XS.ifNo X.here C.exec rfl (hb C.bys hd) rfl ((if0 _ _).trans q) k) (h2 q)
  · exact go_pure (fun T _ _ _ X t k => XS.ifYes X.here C.exec rfl (pc0 := pc) (pc' := tg) rfl (hb C.bys hd.1) rfl ((if0 _ _).trans q) (by omega) (by omega) k) (h1 q)
theorem h_eq {x z : Int32} {B : Bool} (q : if_icmp.holds .eq x z = B) : B = true ↔ x = z := by subst q; simp [if_icmp.holds]
theorem h_ne {x z : Int32} {B : Bool} (q : if_icmp.holds .ne x z = B) : B = true ↔ ¬ x = z := by subst q; simp [if_icmp.holds]
theorem h_lt {x z : Int32} {B : Bool} (q : if_icmp.holds .lt x z = B) : B = true ↔ x.toInt < z.toInt := by subst q; simp [if_icmp.holds, Int32.lt_iff_toInt_lt]
theorem h_ge {x z : Int32} {B : Bool} (q : if_icmp.holds .ge x z = B) : B = true ↔ z.toInt ≤ x.toInt := by subst q; simp [if_icmp.holds, Int32.le_iff_toInt_le]
theorem h_gt {x z : Int32} {B : Bool} (q : if_icmp.holds .gt x z = B) : B = true ↔ z.toInt < x.toInt := by subst q; simp [if_icmp.holds, Int32.lt_iff_toInt_lt]
theorem h_le {x z : Int32} {B : Bool} (q : if_icmp.holds .le x z = B) : B = true ↔ x.toInt ≤ z.toInt := by subst q; simp [if_icmp.holds, Int32.le_iff_toInt_le]
theorem go_iceq {o : Int} {x z : Int32} (hd : Dc bytes pc (.if_icmp .eq o) 3 nx) (ht : (pc : Int) + o = (tg : Nat)) (h1 : x = z → Go C tg L S H cells slots) (h2 : ¬ x = z → Go C nx L S H cells slots) : Go C pc L (.int z :: .int x :: S) H cells slots :=
  go_icmp hd ht (fun q => h1 ((h_eq q).mp rfl)) (fun q => h2 (fun r => Bool.noConfusion ((h_eq q).mpr r)))
theorem go_iceqY {o : Int} {x z : Int32} (hd : Dc bytes pc (.if_icmp .eq o) 3 nx) (ht : (pc : Int) + o = (tg : Nat)) (hc : x = z) (h : Go C tg L S H cells slots) : Go C pc L (.int z :: .int x :: S) H cells slots :=
  go_iceq hd ht (fun _ => h) (fun q => absurd hc (by first | exact q | exact not_not_intro q | omega))
theorem go_iceqN {o : Int} {x z : Int32} (hd : Dc bytes pc (.if_icmp .eq o) 3 nx) (ht : (pc : Int) + o = (tg : Nat)) (hc : ¬ x = z) (h : Go C nx L S H cells slots) : Go C pc L (.int z :: .int x :: S) H cells slots :=
  go_iceq hd ht (fun q => absurd hc (by first | exact q | exact not_not_intro q | omega)) (fun _ => h)
theorem go_ifeq {o : Int} {x : Int32} (hd : Dc bytes pc (.ifCond .eq o) 3 nx) (ht : (pc : Int) + o = (tg : Nat)) (h1 : x = 0 → Go C tg L S H cells slots) (h2 : ¬ x = 0 → Go C nx L S H cells slots) : Go C pc L (.int x :: S) H cells slots :=
  go_if hd ht (fun q => h1 ((h_eq q).mp rfl)) (fun q => h2 (fun r => Bool.noConfusion ((h_eq q).mpr r)))
theorem go_ifeqY {o : Int} {x : Int32} (hd : Dc bytes pc (.ifCond .eq o) 3 nx) (ht : (pc : Int) + o = (tg : Nat)) (hc : x = 0) (h : Go C tg L S H cells slots) : Go C pc L (.int x :: S) H cells slots :=
  go_ifeq hd ht (fun _ => h) (fun q => absurd hc (by first | exact q | exact not_not_intro q | omega))
theorem go_ifeqN {o : Int} {x : Int32} (hd : Dc bytes pc (.ifCond .eq o) 3 nx) (ht : (pc : Int) + o = (tg : Nat)) (hc : ¬ x = 0) (h : Go C nx L S H cells slots) : Go C pc L (.int x :: S) H cells slots :=
  go_ifeq hd ht (fun q => absurd hc (by first | exact q | exact not_not_intro q | omega)) (fun _ => h)
theorem go_icne {o : Int} {x z : Int32} (hd : Dc bytes pc (.if_icmp .ne o) 3 nx) (ht : (pc : Int) + o = (tg : Nat)) (h1 : ¬ x = z → Go C tg L S H cells slots) (h2 : x = z → Go C nx L S H cells slots) : Go C pc L (.int z :: .int x :: S) H cells slots :=
  go_icmp hd ht (fun q => h1 ((h_ne q).mp rfl)) (fun q => h2 (Decidable.not_not.mp fun r => Bool.noConfusion ((h_ne q).mpr r)))
theorem go_icneY {o : Int} {x z : Int32} (hd : Dc bytes pc (.if_icmp .ne o) 3 nx) (ht : (pc : Int) + o = (tg : Nat)) (hc : ¬ x = z) (h : Go C tg L S H cells slots) : Go C pc L (.int z :: .int x :: S) H cells slots :=
  go_icne hd ht (fun _ => h) (fun q => absurd hc (by first | exact q | exact not_not_intro q | omega))
theorem go_icneN {o : Int} {x z : Int32} (hd : Dc bytes pc (.if_icmp .ne o) 3 nx) (ht : (pc : Int) + o = (tg : Nat)) (hc : x = z) (h : Go C nx L S H cells slots) : Go C pc L (.int z :: .int x :: S) H cells slots :=
  go_icne hd ht (fun q => absurd hc (by first | exact q | exact not_not_intro q | omega)) (fun _ => h)
theorem go_ifne {o : Int} {x : Int32} (hd : Dc bytes pc (.ifCond .ne o) 3 nx) (ht : (pc : Int) + o = (tg : Nat)) (h1 : ¬ x = 0 → Go C tg L S H cells slots) (h2 : x = 0 → Go C nx L S H cells slots) : Go C pc L (.int x :: S) H cells slots :=
  go_if hd ht (fun q => h1 ((h_ne q).mp rfl)) (fun q => h2 (Decidable.not_not.mp fun r => Bool.noConfusion ((h_ne q).mpr r)))
theorem go_ifneY {o : Int} {x : Int32} (hd : Dc bytes pc (.ifCond .ne o) 3 nx) (ht : (pc : Int) + o = (tg : Nat)) (hc : ¬ x = 0) (h : Go C tg L S H cells slots) : Go C pc L (.int x :: S) H cells slots :=
  go_ifne hd ht (fun _ => h) (fun q => absurd hc (by first | exact q | exact not_not_intro q | omega))
theorem go_ifneN {o : Int} {x : Int32} (hd : Dc bytes pc (.ifCond .ne o) 3 nx) (ht : (pc : Int) + o = (tg : Nat)) (hc : x = 0) (h : Go C nx L S H cells slots) : Go C pc L (.int x :: S) H cells slots :=
  go_ifne hd ht (fun q => absurd hc (by first | exact q | exact not_not_intro q | omega)) (fun _ => h)
theorem go_iclt {o : Int} {x z : Int32} (hd : Dc bytes pc (.if_icmp .lt o) 3 nx) (ht : (pc : Int) + o = (tg : Nat)) (h1 : x.toInt < z.toInt → Go C tg L S H cells slots) (h2 : z.toInt ≤ x.toInt → Go C nx L S H cells slots) : Go C pc L (.int z :: .int x :: S) H cells slots :=
  go_icmp hd ht (fun q => h1 ((h_lt q).mp rfl)) (fun q => h2 ((by have := mt (h_lt q).mpr (by simp); omega)))
theorem go_icltY {o : Int} {x z : Int32} (hd : Dc bytes pc (.if_icmp .lt o) 3 nx) (ht : (pc : Int) + o = (tg : Nat)) (hc : x.toInt < z.toInt) (h : Go C tg L S H cells slots) : Go C pc L (.int z :: .int x :: S) H cells slots :=
  go_iclt hd ht (fun _ => h) (fun q => absurd hc (by first | exact q | exact not_not_intro q | omega))
theorem go_icltN {o : Int} {x z : Int32} (hd : Dc bytes pc (.if_icmp .lt o) 3 nx) (ht : (pc : Int) + o = (tg : Nat)) (hc : z.toInt ≤ x.toInt) (h : Go C nx L S H cells slots) : Go C pc L (.int z :: .int x :: S) H cells slots :=
  go_iclt hd ht (fun q => absurd hc (by first | exact q | exact not_not_intro q | omega)) (fun _ => h)
theorem go_iflt {o : Int} {x : Int32} (hd : Dc bytes pc (.ifCond .lt o) 3 nx) (ht : (pc : Int) + o = (tg : Nat)) (h1 : x.toInt < 0 → Go C tg L S H cells slots) (h2 : 0 ≤ x.toInt → Go C nx L S H cells slots) : Go C pc L (.int x :: S) H cells slots :=
  go_if hd ht (fun q => h1 ((by have := (h_lt q).mp rfl; simpa using this))) (fun q => h2 ((by have := mt (h_lt q).mpr (by simp); simpa using this)))
theorem go_ifltY {o : Int} {x : Int32} (hd : Dc bytes pc (.ifCond .lt o) 3 nx) (ht : (pc : Int) + o = (tg : Nat)) (hc : x.toInt < 0) (h : Go C tg L S H cells slots) : Go C pc L (.int x :: S) H cells slots :=
  go_iflt hd ht (fun _ => h) (fun q => absurd hc (by first | exact q | exact not_not_intro q | omega))
theorem go_ifltN {o : Int} {x : Int32} (hd : Dc bytes pc (.ifCond .lt o) 3 nx) (ht : (pc : Int) + o = (tg : Nat)) (hc : 0 ≤ x.toInt) (h : Go C nx L S H cells slots) : Go C pc L (.int x :: S) H cells slots :=
  go_iflt hd ht (fun q => absurd hc (by first | exact q | exact not_not_intro q | omega)) (fun _ => h)
theorem go_icge {o : Int} {x z : Int32} (hd : Dc bytes pc (.if_icmp .ge o) 3 nx) (ht : (pc : Int) + o = (tg : Nat)) (h1 : z.toInt ≤ x.toInt → Go C tg L S H cells slots) (h2 : x.toInt < z.toInt → Go C nx L S H cells slots) : Go C pc L (.int z :: .int x :: S) H cells slots :=
  go_icmp hd ht (fun q => h1 ((h_ge q).mp rfl)) (fun q => h2 ((by have := mt (h_ge q).mpr (by simp); omega)))
theorem go_icgeY {o : Int} {x z : Int32} (hd : Dc bytes pc (.if_icmp .ge o) 3 nx) (ht : (pc : Int) + o = (tg : Nat)) (hc : z.toInt ≤ x.toInt) (h : Go C tg L S H cells slots) : Go C pc L (.int z :: .int x :: S) H cells slots :=
  go_icge hd ht (fun _ => h) (fun q => absurd hc (by first | exact q | exact not_not_intro q | omega))
theorem go_icgeN {o : Int} {x z : Int32} (hd : Dc bytes pc (.if_icmp .ge o) 3 nx) (ht : (pc : Int) + o = (tg : Nat)) (hc : x.toInt < z.toInt) (h : Go C nx L S H cells slots) : Go C pc L (.int z :: .int x :: S) H cells slots :=
  go_icge hd ht (fun q => absurd hc (by first | exact q | exact not_not_intro q | omega)) (fun _ => h)
theorem go_ifge {o : Int} {x : Int32} (hd : Dc bytes pc (.ifCond .ge o) 3 nx) (ht : (pc : Int) + o = (tg : Nat)) (h1 : 0 ≤ x.toInt → Go C tg L S H cells slots) (h2 : x.toInt < 0 → Go C nx L S H cells slots) : Go C pc L (.int x :: S) H cells slots :=
  go_if hd ht (fun q => h1 ((by have := (h_ge q).mp rfl; simpa using this))) (fun q => h2 ((by have := mt (h_ge q).mpr (by simp); simpa using this)))
theorem go_ifgeY {o : Int} {x : Int32} (hd : Dc bytes pc (.ifCond .ge o) 3 nx) (ht : (pc : Int) + o = (tg : Nat)) (hc : 0 ≤ x.toInt) (h : Go C tg L S H cells slots) : Go C pc L (.int x :: S) H cells slots :=
  go_ifge hd ht (fun _ => h) (fun q => absurd hc (by first | exact q | exact not_not_intro q | omega))
theorem go_ifgeN {o : Int} {x : Int32} (hd : Dc bytes pc (.ifCond .ge o) 3 nx) (ht : (pc : Int) + o = (tg : Nat)) (hc : x.toInt < 0) (h : Go C nx L S H cells slots) : Go C pc L (.int x :: S) H cells slots :=
  go_ifge hd ht (fun q => absurd hc (by first | exact q | exact not_not_intro q | omega)) (fun _ => h)
theorem go_icgt {o : Int} {x z : Int32} (hd : Dc bytes pc (.if_icmp .gt o) 3 nx) (ht : (pc : Int) + o = (tg : Nat)) (h1 : z.toInt < x.toInt → Go C tg L S H cells slots) (h2 : x.toInt ≤ z.toInt → Go C nx L S H cells slots) : Go C pc L (.int z :: .int x :: S) H cells slots :=
  go_icmp hd ht (fun q => h1 ((h_gt q).mp rfl)) (fun q => h2 ((by have := mt (h_gt q).mpr (by simp); omega)))
theorem go_icgtY {o : Int} {x z : Int32} (hd : Dc bytes pc (.if_icmp .gt o) 3 nx) (ht : (pc : Int) + o = (tg : Nat)) (hc : z.toInt < x.toInt) (h : Go C tg L S H cells slots) : Go C pc L (.int z :: .int x :: S) H cells slots :=
  go_icgt hd ht (fun _ => h) (fun q => absurd hc (by first | exact q | exact not_not_intro q | omega))
theorem go_icgtN {o : Int} {x z : Int32} (hd : Dc bytes pc (.if_icmp .gt o) 3 nx) (ht : (pc : Int) + o = (tg : Nat)) (hc : x.toInt ≤ z.toInt) (h : Go C nx L S H cells slots) : Go C pc L (.int z :: .int x :: S) H cells slots :=
  go_icgt hd ht (fun q => absurd hc (by first | exact q | exact not_not_intro q | omega)) (fun _ => h)
theorem go_ifgt {o : Int} {x : Int32} (hd : Dc bytes pc (.ifCond .gt o) 3 nx) (ht : (pc : Int) + o = (tg : Nat)) (h1 : 0 < x.toInt → Go C tg L S H cells slots) (h2 : x.toInt ≤ 0 → Go C nx L S H cells slots) : Go C pc L (.int x :: S) H cells slots :=
  go_if hd ht (fun q => h1 ((by have := (h_gt q).mp rfl; simpa using this))) (fun q => h2 ((by have := mt (h_gt q).mpr (by simp); simpa using this)))
theorem go_ifgtY {o : Int} {x : Int32} (hd : Dc bytes pc (.ifCond .gt o) 3 nx) (ht : (pc : Int) + o = (tg : Nat)) (hc : 0 < x.toInt) (h : Go C tg L S H cells slots) : Go C pc L (.int x :: S) H cells slots :=
  go_ifgt hd ht (fun _ => h) (fun q => absurd hc (by first | exact q | exact not_not_intro q | omega))
theorem go_ifgtN {o : Int} {x : Int32} (hd : Dc bytes pc (.ifCond .gt o) 3 nx) (ht : (pc : Int) + o = (tg : Nat)) (hc : x.toInt ≤ 0) (h : Go C nx L S H cells slots) : Go C pc L (.int x :: S) H cells slots :=
  go_ifgt hd ht (fun q => absurd hc (by first | exact q | exact not_not_intro q | omega)) (fun _ => h)
theorem go_icle {o : Int} {x z : Int32} (hd : Dc bytes pc (.if_icmp .le o) 3 nx) (ht : (pc : Int) + o = (tg : Nat)) (h1 : x.toInt ≤ z.toInt → Go C tg L S H cells slots) (h2 : z.toInt < x.toInt → Go C nx L S H cells slots) : Go C pc L (.int z :: .int x :: S) H cells slots :=
  go_icmp hd ht (fun q => h1 ((h_le q).mp rfl)) (fun q => h2 ((by have := mt (h_le q).mpr (by simp); omega)))
theorem go_icleY {o : Int} {x z : Int32} (hd : Dc bytes pc (.if_icmp .le o) 3 nx) (ht : (pc : Int) + o = (tg : Nat)) (hc : x.toInt ≤ z.toInt) (h : Go C tg L S H cells slots) : Go C pc L (.int z :: .int x :: S) H cells slots :=
  go_icle hd ht (fun _ => h) (fun q => absurd hc (by first | exact q | exact not_not_intro q | omega))
theorem go_icleN {o : Int} {x z : Int32} (hd : Dc bytes pc (.if_icmp .le o) 3 nx) (ht : (pc : Int) + o = (tg : Nat)) (hc : z.toInt < x.toInt) (h : Go C nx L S H cells slots) : Go C pc L (.int z :: .int x :: S) H cells slots :=
  go_icle hd ht (fun q => absurd hc (by first | exact q | exact not_not_intro q | omega)) (fun _ => h)
theorem go_ifle {o : Int} {x : Int32} (hd : Dc bytes pc (.ifCond .le o) 3 nx) (ht : (pc : Int) + o = (tg : Nat)) (h1 : x.toInt ≤ 0 → Go C tg L S H cells slots) (h2 : 0 < x.toInt → Go C nx L S H cells slots) : Go C pc L (.int x :: S) H cells slots :=
  go_if hd ht (fun q => h1 ((by have := (h_le q).mp rfl; simpa using this))) (fun q => h2 ((by have := mt (h_le q).mpr (by simp); simpa using this)))
theorem go_ifleY {o : Int} {x : Int32} (hd : Dc bytes pc (.ifCond .le o) 3 nx) (ht : (pc : Int) + o = (tg : Nat)) (hc : x.toInt ≤ 0) (h : Go C tg L S H cells slots) : Go C pc L (.int x :: S) H cells slots :=
  go_ifle hd ht (fun _ => h) (fun q => absurd hc (by first | exact q | exact not_not_intro q | omega))
theorem go_ifleN {o : Int} {x : Int32} (hd : Dc bytes pc (.ifCond .le o) 3 nx) (ht : (pc : Int) + o = (tg : Nat)) (hc : 0 < x.toInt) (h : Go C nx L S H cells slots) : Go C pc L (.int x :: S) H cells slots :=
  go_ifle hd ht (fun q => absurd hc (by first | exact q | exact not_not_intro q | omega)) (fun _ => h)
theorem lcm_eq (x z : Int64) : XT.cmpL x z = 0 ↔ x = z := by
  unfold XT.cmpL
  by_cases h1 : z < x
  · rw [if_pos h1]; constructor
    · intro h; cases h
    · rintro rfl; exact (Int64.lt_irrefl h1).elim
  · rw [if_neg h1]; by_cases h2 : x = z
    · rw [if_pos h2]; simp [h2]
    · rw [if_neg h2]; constructor
      · intro h; cases h
      · intro h; exact absurd h h2
theorem lcm_lt (x z : Int64) : (XT.cmpL x z).toInt < 0 ↔ x.toInt < z.toInt := by
  unfold XT.cmpL
  by_cases h1 : z < x
  · rw [if_pos h1]; rw [Int64.lt_iff_toInt_lt] at h1; constructor
    · intro h; exact absurd h (by decide)
    · intro h; omega
  · rw [if_neg h1]; rw [Int64.lt_iff_toInt_lt] at h1; by_cases h2 : x = z
    · rw [if_pos h2]; subst h2; constructor
      · intro h; exact absurd h (by decide)
      · intro h; omega
    · rw [if_neg h2]; have : x.toInt ≠ z.toInt := fun q => h2 (Int64.toInt_inj.mp q)
      constructor
      · intro h; omega
      · intro h; decide
theorem lcm_gt (x z : Int64) : 0 < (XT.cmpL x z).toInt ↔ z.toInt < x.toInt := by
  unfold XT.cmpL
  by_cases h1 : z < x
  · rw [if_pos h1]; rw [Int64.lt_iff_toInt_lt] at h1; constructor
    · intro h; omega
    · intro h; decide
  · rw [if_neg h1]; rw [Int64.lt_iff_toInt_lt] at h1; by_cases h2 : x = z
    · rw [if_pos h2]; subst h2; constructor
      · intro h; exact absurd h (by decide)
      · intro h; omega
    · rw [if_neg h2]; constructor
      · intro h; exact absurd h (by decide)
      · intro h; omega
theorem go_lcmp {x z : Int64} (hd : Dc bytes pc .lcmp 1 nx) (h : Go C nx L (.int (XT.cmpL x z) :: S) H cells slots) : Go C pc L (.long z :: .long x :: S) H cells slots :=
  go_pure (fun T _ _ _ X t k => by obtain ⟨hd, rfl⟩ := hd; exact XT.lcmp X.here C.exec rfl (hb C.bys hd) rfl k) h
theorem go_lceq {o : Int} {x z : Int64} {p1 : Nat} (hd1 : Dc bytes pc .lcmp 1 p1) (hd : Dc bytes p1 (.ifCond .eq o) 3 nx) (ht : (p1 : Int) + o = (tg : Nat)) (h1 : x = z → Go C tg L S H cells slots) (h2 : ¬ x = z → Go C nx L S H cells slots) : Go C pc L (.long z :: .long x :: S) H cells slots :=
  go_lcmp hd1 (go_ifeq hd ht (fun q => h1 ((lcm_eq x z).mp q)) (fun q => h2 (fun r => q ((lcm_eq x z).mpr r))))
theorem go_lcne {o : Int} {x z : Int64} {p1 : Nat} (hd1 : Dc bytes pc .lcmp 1 p1) (hd : Dc bytes p1 (.ifCond .ne o) 3 nx) (ht : (p1 : Int) + o = (tg : Nat)) (h1 : ¬ x = z → Go C tg L S H cells slots) (h2 : x = z → Go C nx L S H cells slots) : Go C pc L (.long z :: .long x :: S) H cells slots :=
  go_lcmp hd1 (go_ifne hd ht (fun q => h1 (fun r => q ((lcm_eq x z).mpr r))) (fun q => h2 ((lcm_eq x z).mp q)))
theorem go_lclt {o : Int} {x z : Int64} {p1 : Nat} (hd1 : Dc bytes pc .lcmp 1 p1) (hd : Dc bytes p1 (.ifCond .lt o) 3 nx) (ht : (p1 : Int) + o = (tg : Nat)) (h1 : x.toInt < z.toInt → Go C tg L S H cells slots) (h2 : z.toInt ≤ x.toInt → Go C nx L S H cells slots) : Go C pc L (.long z :: .long x :: S) H cells slots :=
  go_lcmp hd1 (go_iflt hd ht (fun q => h1 (by have := lcm_lt x z; omega)) (fun q => h2 (by have := lcm_lt x z; omega)))
theorem go_lcge {o : Int} {x z : Int64} {p1 : Nat} (hd1 : Dc bytes pc .lcmp 1 p1) (hd : Dc bytes p1 (.ifCond .ge o) 3 nx) (ht : (p1 : Int) + o = (tg : Nat)) (h1 : z.toInt ≤ x.toInt → Go C tg L S H cells slots) (h2 : x.toInt < z.toInt → Go C nx L S H cells slots) : Go C pc L (.long z :: .long x :: S) H cells slots :=
  go_lcmp hd1 (go_ifge hd ht (fun q => h1 (by have := lcm_lt x z; omega)) (fun q => h2 (by have := lcm_lt x z; omega)))
theorem go_lcgt {o : Int} {x z : Int64} {p1 : Nat} (hd1 : Dc bytes pc .lcmp 1 p1) (hd : Dc bytes p1 (.ifCond .gt o) 3 nx) (ht : (p1 : Int) + o = (tg : Nat)) (h1 : z.toInt < x.toInt → Go C tg L S H cells slots) (h2 : x.toInt ≤ z.toInt → Go C nx L S H cells slots) : Go C pc L (.long z :: .long x :: S) H cells slots :=
  go_lcmp hd1 (go_ifgt hd ht (fun q => h1 (by have := lcm_gt x z; omega)) (fun q => h2 (by have := lcm_gt x z; omega)))
theorem go_lcle {o : Int} {x z : Int64} {p1 : Nat} (hd1 : Dc bytes pc .lcmp 1 p1) (hd : Dc bytes p1 (.ifCond .le o) 3 nx) (ht : (p1 : Int) + o = (tg : Nat)) (h1 : x.toInt ≤ z.toInt → Go C tg L S H cells slots) (h2 : z.toInt < x.toInt → Go C nx L S H cells slots) : Go C pc L (.long z :: .long x :: S) H cells slots :=
  go_lcmp hd1 (go_ifle hd ht (fun q => h1 (by have := lcm_gt x z; omega)) (fun q => h2 (by have := lcm_gt x z; omega)))
theorem go_acmp {cd : ACond} {o : Int} {v w : Value} {same : Bool} (hd : Dc bytes pc (.if_acmp cd o) 3 nx) (hv : v.isRef = true) (hw : w.isRef = true) (hs : decide (v = w) = same) (ht : (pc : Int) + o = (tg : Nat)) (h : Go C (if acV cd same = true then tg else nx) L S H cells slots) : Go C pc L (w :: v :: S) H cells slots :=
  go_pure (fun T _ _ _ X t k => by
    obtain ⟨hd, rfl⟩ := hd
    refine Jvm.RoadKit.acmp (g := frm b m pc L (w :: v :: S)) X C.exec rfl ((isRef_up b v).trans hv) ((isRef_up b w).trans hw) (pc0 := pc) (same := same) rfl (hb C.bys hd) rfl ?_ (by omega) (pc' := if acV cd same = true then tg else pc + 3) ?_ k
    · rw [← hs]
      have : upV b v = upV b w ↔ v = w := by
        constructor
        · intro q; cases v <;> cases w <;> simp_all [upV, Value.isRef]
        · intro q; rw [q]
      simp [this]
    · congr 1; omega) h
theorem go_ifnull_null {o : Int} (hd : Dc bytes pc (.ifnull o) 3 nx) (ht : (pc : Int) + o = (tg : Nat)) (h : Go C tg L S H cells slots) : Go C pc L (.null :: S) H cells slots :=
  go_pure (fun T _ _ _ X t k => XS.ifnullYes X.here C.exec rfl (pc0 := pc) (pc' := tg) rfl (hb C.bys hd.1) rfl (by omega) (by omega) k) h
theorem go_ifnull_ref {o : Int} {a : Nat} (hd : Dc bytes pc (.ifnull o) 3 nx) (h : Go C nx L S H cells slots) : Go C pc L (.ref a :: S) H cells slots :=
  go_pure (fun T _ _ _ X t k => by obtain ⟨hd, rfl⟩ := hd; exact XS.ifnullNo X.here C.exec rfl (hb C.bys hd) rfl k) h
theorem go_ifnonnull_ref {o : Int} {a : Nat} (hd : Dc bytes pc (.ifnonnull o) 3 nx) (ht : (pc : Int) + o = (tg : Nat)) (h : Go C tg L S H cells slots) : Go C pc L (.ref a :: S) H cells slots :=
  go_pure (fun T _ _ _ X t k => XT.ifnonnullYes X.here C.exec rfl (pc0 := pc) (pc' := tg) rfl (hb C.bys hd.1) rfl (by omega) (by omega) k) h
def oneS : Slot → Bool
  | .unset => true
  | .val v => v.category == 1
  | .second => false
def notL : Slot → Bool
  | .unset => true
  | .val v => v.category == 1
  | .second => true
theorem oneS_up {o : Slot} (h : oneS o = true) : upS b o = .unset ∨ ∃ w, upS b o = .val w ∧ w.category = 1 := by
  cases o with
  | unset => exact Or.inl rfl
  | second => cases h
  | val v => exact Or.inr ⟨_, rfl, (cat_up b v).trans (by simpa [oneS] using h)⟩
theorem set_up (k : Nat) (v : Value) : (L.map (upS b)).toArray.setIfInBounds k (.val (upV b v)) = ((L.set k (.val v)).map (upS b)).toArray := by
  simp [List.map_set, upS]
theorem sto1 {k : Nat} {o : Slot} {v : Value} (hk : L[k]? = some o) (ho : oneS o = true) (hv : v.category = 1) : storeLocals (L.map (upS b)).toArray k (upV b v) = some ((L.set k (.val v)).map (upS b)).toArray := by
  rw [XS.store1 (getL hk) (oneS_up ho) ((cat_up b v).trans hv), set_up]
theorem sto2 {k : Nat} {o o' : Slot} {x : Int64} (hk : L[k]? = some o) (hk' : L[k + 1]? = some o') (ho : oneS o = true ∨ ∃ z, o = .val (.long z)) (ho' : notL o' = true) : storeLocals (L.map (upS b)).toArray k (.long x) = some (((L.set k (.val (.long x))).set (k + 1) .second).map (upS b)).toArray := by
  obtain ⟨A, hA⟩ : ∃ A, A = (L.map (upS b)).toArray := ⟨_, rfl⟩
  have e0 := getL (b := b) hk
  have e1 := getL (b := b) hk'
  have fin : ((L.map (upS b)).toArray.setIfInBounds k (.val (.long x))).setIfInBounds (k + 1) .second = (((L.set k (.val (.long x))).set (k + 1) .second).map (upS b)).toArray := by
    simp [List.map_set, upS, upV]
  rw [← fin]
  rw [← hA] at e0 e1 ⊢
  clear hA fin
  have i0 : k < A.size := (Array.getElem?_eq_some_iff.mp e0).1
  have i1 : k + 1 < A.size := (Array.getElem?_eq_some_iff.mp e1).1
  have s1 : ∀ B : Array Slot, B.size = A.size → setAt B (k + 1) .second = some (B.setIfInBounds (k + 1) .second) := fun B hB => by simp [setAt, hB, i1]
  have self : ∀ (B : Array Slot) (u : Slot), B.size = A.size → B[k + 1]? = some u → (∀ w, u = .val w → w.category ≠ 2) → storeSelf B k (.long x) = some ((B.setIfInBounds k (.val (.long x))).setIfInBounds (k + 1) .second) := by
    intro B u hB hu hc
    have e2 : (B.setIfInBounds k (.val (.long x)))[k + 1]? = some u := by
      rw [Array.getElem?_setIfInBounds_ne (by omega)]; exact hu
    have e3 : setAt B k (.val (.long x)) = some (B.setIfInBounds k (.val (.long x))) := by simp [setAt, hB, i0]
    have e4 := s1 (B.setIfInBounds k (.val (.long x))) (by simp [hB])
    unfold storeSelf
    rw [e3]
    simp only [Option.bind_eq_bind, Option.bind_some, Value.category, if_true, e2]
    cases u with
    | unset => exact e4
    | second => exact e4
    | val w =>
      have := hc w rfl
      simp only [Value.category] at this
      simp only [this, if_false]
      exact e4
  have n1 : ∀ w, upS b o' = .val w → w.category ≠ 2 := by
    intro w hw
    cases o' with
    | unset => cases hw
    | second => cases hw
    | val v => cases hw; rw [cat_up]; intro q; simp [notL, q] at ho'
  rcases ho with ho | ⟨z, rfl⟩
  · have a1 := oneS_up (b := b) ho
    have step : storeLocals A k (.long x) = storeSelf A k (.long x) := by
      rcases a1 with a1 | ⟨w, a1, a2⟩
      · simp [storeLocals, e0, a1]
      · simp [storeLocals, e0, a1, a2]
    rw [step]
    exact self A _ rfl e1 n1
  · have step : storeLocals A k (.long x) = storeSelf (A.setIfInBounds (k + 1) .unset) k (.long x) := by
      have e3 : setAt A (k + 1) .unset = some (A.setIfInBounds (k + 1) .unset) := by simp [setAt, i1]
      unfold storeLocals
      rw [e0]
      simp only [upS, upV, Option.bind_eq_bind, Option.bind_some, Value.category, if_true, e3]
    rw [step, self (A.setIfInBounds (k + 1) .unset) .unset (by simp) (by simp [i1]) (fun w hw => by cases hw)]
    congr 1
    apply Array.ext_getElem?
    intro j
    simp only [Array.getElem?_setIfInBounds]
    by_cases q : k + 1 = j
    · subst q; simp
    · simp [q]
theorem go_istore {k : Nat} {o : Slot} {x : Int32} (hd : Dc bytes pc (.istore k) 2 nx) (hk : L[k]? = some o) (ho : oneS o = true) (h : Go C nx (L.set k (.val (.int x))) S H cells slots) : Go C pc L (.int x :: S) H cells slots :=
  go_pure (fun T _ _ _ X t r => by obtain ⟨hd, rfl⟩ := hd; exact XS.istore X.here C.exec rfl (hb C.bys hd) rfl (sto1 (v := .int x) hk ho rfl) r) h
theorem go_istoreN {k : Fin 4} {o : Slot} {x : Int32} (hd : Dc bytes pc (.istore_n k) 1 nx) (hk : L[k.val]? = some o) (ho : oneS o = true) (h : Go C nx (L.set k.val (.val (.int x))) S H cells slots) : Go C pc L (.int x :: S) H cells slots :=
  go_pure (fun T _ _ _ X t r => by obtain ⟨hd, rfl⟩ := hd; exact XS.istoreN X.here C.exec rfl (hb C.bys hd) rfl (sto1 (v := .int x) hk ho rfl) r) h
theorem cat_ref {v : Value} (h : v.isRef = true) : v.category = 1 := by cases v <;> first | rfl | cases h
theorem go_astore {k : Nat} {o : Slot} {v : Value} (hd : Dc bytes pc (.astore k) 2 nx) (hk : L[k]? = some o) (ho : oneS o = true) (hv : v.isRef = true) (h : Go C nx (L.set k (.val v)) S H cells slots) : Go C pc L (v :: S) H cells slots :=
  go_pure (fun T _ _ _ X t r => by obtain ⟨hd, rfl⟩ := hd; exact XS.astore X.here C.exec rfl (hb C.bys hd) rfl ((isRef_up b v).trans hv) (sto1 (v := v) hk ho (cat_ref hv)) r) h
theorem go_astoreN {k : Fin 4} {o : Slot} {v : Value} (hd : Dc bytes pc (.astore_n k) 1 nx) (hk : L[k.val]? = some o) (ho : oneS o = true) (hv : v.isRef = true) (h : Go C nx (L.set k.val (.val v)) S H cells slots) : Go C pc L (v :: S) H cells slots :=
  go_pure (fun T _ _ _ X t r => by obtain ⟨hd, rfl⟩ := hd; exact XS.astoreN X.here C.exec rfl (hb C.bys hd) rfl ((isRef_up b v).trans hv) (sto1 (v := v) hk ho (cat_ref hv)) r) h
theorem go_lstore {k : Nat} {o o' : Slot} {x : Int64} (hd : Dc bytes pc (.lstore k) 2 nx) (hk : L[k]? = some o) (hk' : L[k + 1]? = some o') (ho : oneS o = true ∨ ∃ z, o = .val (.long z)) (ho' : notL o' = true) (h : Go C nx ((L.set k (.val (.long x))).set (k + 1) .second) S H cells slots) : Go C pc L (.long x :: S) H cells slots :=
  go_pure (fun T _ _ _ X t r => by obtain ⟨hd, rfl⟩ := hd; exact XT.lstore X.here C.exec rfl (hb C.bys hd) rfl (sto2 hk hk' ho ho') r) h
theorem go_lstoreN {k : Fin 4} {o o' : Slot} {x : Int64} (hd : Dc bytes pc (.lstore_n k) 1 nx) (hk : L[k.val]? = some o) (hk' : L[k.val + 1]? = some o') (ho : oneS o = true ∨ ∃ z, o = .val (.long z)) (ho' : notL o' = true) (h : Go C nx ((L.set k.val (.val (.long x))).set (k.val + 1) .second) S H cells slots) : Go C pc L (.long x :: S) H cells slots :=
  go_pure (fun T _ _ _ X t r => by obtain ⟨hd, rfl⟩ := hd; exact XT.lstoreN X.here C.exec rfl (hb C.bys hd) rfl (sto2 hk hk' ho ho') r) h
theorem go_iinc {k : Nat} {i : Int} {x z : Int32} (hd : Dc bytes pc (.iinc k i) 3 nx) (hk : L[k]? = some (.val (.int x))) (hz : Int32.ofInt i = z) (h : Go C nx (L.set k (.val (.int (x + z)))) S H cells slots) : Go C pc L S H cells slots :=
  go_pure (fun T _ _ _ X t r => by obtain ⟨hd, rfl⟩ := hd; subst hz; exact XS.iinc X.here C.exec rfl (hb C.bys hd) (getL hk) (sto1 (v := .int (x + Int32.ofInt i)) hk rfl rfl) r) h
/-! ### the heap -/
theorem cell_arr {i : Nat} {ty : FieldType} {vs : List Value} {h : Heap} (RR : Rel Z a0 b H h) (hH : H[i]? = some (ar ty vs)) : ∃ c : Cell, Arr Z h (b + i) c ty ∧ c.slots = (vs.map (upV b)).toArray := RR.2 i _ hH
theorem idx_ok {j : Int32} {k n : Nat} (hj : j.toInt = (k : Int)) (hk : k < n) : ¬ (j < 0 ∨ n ≤ j.toNatClampNeg) := by
  rw [Int32.lt_iff_toInt_lt]
  have e0 : (0 : Int32).toInt = 0 := rfl
  simp only [Int32.toNatClampNeg, hj, e0]
  omega
theorem clamp_eq {j : Int32} {k : Nat} (hj : j.toInt = (k : Int)) : j.toNatClampNeg = k := by simp [Int32.toNatClampNeg, hj]
theorem go_iaload {i k : Nat} {vs : List Value} {j : Int32} {v : Value} (hd : Dc bytes pc .iaload 1 nx) (hH : H[i]? = some (ar .int vs)) (hj : j.toInt = (k : Int)) (hv : vs[k]? = some v) (h : Go C nx L (v :: S) H cells slots) : Go C pc L (.int j :: .ref i :: S) H cells slots := by
  intro T locs X N RR
  obtain ⟨c1, A, e1⟩ := cell_arr RR hH
  obtain ⟨hd, rfl⟩ := hd
  have hk : k < vs.length := (List.getElem?_eq_some_iff.mp hv).1
  exact (h T locs X N RR).back fun t r => X.iaload C.exec A.1 (State.isArrayOf_alike C.warm.alike A.2.1) A.2.2 (idx_ok hj (by rw [e1]; simpa using hk)) (by rw [clamp_eq hj, e1]; simp [hv]) (g := frm b m pc L (.int j :: .ref i :: S)) rfl rfl (hb C.bys hd) t r
theorem go_laload {i k : Nat} {vs : List Value} {j : Int32} {v : Value} (hd : Dc bytes pc .laload 1 nx) (hH : H[i]? = some (ar .long vs)) (hj : j.toInt = (k : Int)) (hv : vs[k]? = some v) (h : Go C nx L (v :: S) H cells slots) : Go C pc L (.int j :: .ref i :: S) H cells slots := by
  intro T locs X N RR
  obtain ⟨c1, A, e1⟩ := cell_arr RR hH
  obtain ⟨hd, rfl⟩ := hd
  have hk : k < vs.length := (List.getElem?_eq_some_iff.mp hv).1
  exact (h T locs X N RR).back fun t r => X.laload C.exec A.1 (State.isArrayOf_alike C.warm.alike A.2.1) A.2.2 (idx_ok hj (by rw [e1]; simpa using hk)) (by rw [clamp_eq hj, e1]; simp [hv]) (g := frm b m pc L (.int j :: .ref i :: S)) rfl rfl (hb C.bys hd) t r
theorem go_baload {i k : Nat} {vs : List Value} {j : Int32} {v : Value} (hd : Dc bytes pc .baload 1 nx) (hH : H[i]? = some (ar .byte vs)) (hj : j.toInt = (k : Int)) (hv : vs[k]? = some v) (h : Go C nx L (v :: S) H cells slots) : Go C pc L (.int j :: .ref i :: S) H cells slots := by
  intro T locs X N RR
  obtain ⟨c1, A, e1⟩ := cell_arr RR hH
  obtain ⟨hd, rfl⟩ := hd
  have hk : k < vs.length := (List.getElem?_eq_some_iff.mp hv).1
  exact (h T locs X N RR).back fun t r => X.baloadBytes C.exec A.1 (State.isArrayOf_alike C.warm.alike A.2.1) A.2.2 (idx_ok hj (by rw [e1]; simpa using hk)) (by rw [clamp_eq hj, e1]; simp [hv]) (g := frm b m pc L (.int j :: .ref i :: S)) rfl rfl (hb C.bys hd) t r
theorem go_zaload {i k : Nat} {vs : List Value} {j : Int32} {v : Value} (hd : Dc bytes pc .baload 1 nx) (hH : H[i]? = some (ar .boolean vs)) (hj : j.toInt = (k : Int)) (hv : vs[k]? = some v) (h : Go C nx L (v :: S) H cells slots) : Go C pc L (.int j :: .ref i :: S) H cells slots := by
  intro T locs X N RR
  obtain ⟨c1, A, e1⟩ := cell_arr RR hH
  obtain ⟨hd, rfl⟩ := hd
  have hk : k < vs.length := (List.getElem?_eq_some_iff.mp hv).1
  exact (h T locs X N RR).back fun t r => X.baloadBooleans C.exec A.1 (State.isArrayOf_alike C.warm.alike A.2.1) A.2.2 (idx_ok hj (by rw [e1]; simpa using hk)) (by rw [clamp_eq hj, e1]; simp [hv]) (g := frm b m pc L (.int j :: .ref i :: S)) rfl rfl (hb C.bys hd) t r
theorem go_aaload {i k : Nat} {ty : FieldType} {vs : List Value} {j : Int32} {v : Value} (hd : Dc bytes pc .aaload 1 nx) (hH : H[i]? = some (ar ty vs)) (hty : ty.isReference = true) (hj : j.toInt = (k : Int)) (hv : vs[k]? = some v) (h : Go C nx L (v :: S) H cells slots) : Go C pc L (.int j :: .ref i :: S) H cells slots := by
  intro T locs X N RR
  obtain ⟨c1, A, e1⟩ := cell_arr RR hH
  obtain ⟨hd, rfl⟩ := hd
  have hk : k < vs.length := (List.getElem?_eq_some_iff.mp hv).1
  exact (h T locs X N RR).back fun t r => X.aaload C.exec A.1 (State.isArrayOf_alike C.warm.alike A.2.1) hty A.2.2 (idx_ok hj (by rw [e1]; simpa using hk)) (by rw [clamp_eq hj, e1]; simp [hv]) (g := frm b m pc L (.int j :: .ref i :: S)) rfl rfl (hb C.bys hd) t r
theorem go_len {i : Nat} {ty : FieldType} {vs : List Value} {n : Int32} (hd : Dc bytes pc .arraylength 1 nx) (hH : H[i]? = some (ar ty vs)) (hn : vs.length.toInt32 = n) (h : Go C nx L (.int n :: S) H cells slots) : Go C pc L (.ref i :: S) H cells slots := by
  intro T locs X N RR
  obtain ⟨c1, A, e1⟩ := cell_arr RR hH
  obtain ⟨hd, rfl⟩ := hd
  subst hn
  refine (h T locs X N RR).back fun t k => X.arraylength C.exec A.1 (State.isArrayOf_alike C.warm.alike A.2.1) (g := frm b m pc L (.ref i :: S)) rfl rfl (hb C.bys hd) t ?_
  have e2 : c1.slots.size = vs.length := by rw [e1]; simp
  rw [e2]
  exact k
theorem go_getfield {i j idx : Nat} {Cn n d : String} {fs : List (String × String × Value)} {v : Value} (hd : Dc bytes pc (.getfield idx) 3 nx) (w : Jvm.Cond.fieldLink y.cls idx Cn n d ∈ W) (hH : H[i]? = some (ob Cn fs)) (hf : fs[j]? = some (n, d, v)) (h : Go C nx L (v :: S) H cells slots) : Go C pc L (.ref i :: S) H cells slots := by
  intro T locs X N RR
  obtain ⟨hd, rfl⟩ := hd
  have K : CellOk Z a0 b T.heap (b + i) (ob Cn fs) := RR.2 i _ hH
  obtain ⟨T1, X1, e1, st⟩ := getF X C.exec C.warm C.own (host := "") (Or.inl (C.hw _ w)) Via.refl rfl (K.2.1 _ (List.mem_of_getElem? hf)).1 (g := frm b m pc L (.ref i :: S)) rfl rfl (hb C.bys hd)
  exact (h T1 locs X1 N (by rw [e1]; exact RR)).back st
theorem go_getfieldN {i j idx : Nat} {Cn n d host : String} {fs : List (String × String × Value)} {v : Value} (hd : Dc bytes pc (.getfield idx) 3 nx) (w : Jvm.Cond.fieldLinkNest y.cls idx Cn n d host ∈ W) (hH : H[i]? = some (ob Cn fs)) (hf : fs[j]? = some (n, d, v)) (h : Go C nx L (v :: S) H cells slots) : Go C pc L (.ref i :: S) H cells slots := by
  intro T locs X N RR
  obtain ⟨hd, rfl⟩ := hd
  have K : CellOk Z a0 b T.heap (b + i) (ob Cn fs) := RR.2 i _ hH
  obtain ⟨T1, X1, e1, st⟩ := getF X C.exec C.warm C.own (Or.inr (C.hw _ w)) Via.refl rfl (K.2.1 _ (List.mem_of_getElem? hf)).1 (g := frm b m pc L (.ref i :: S)) rfl rfl (hb C.bys hd)
  exact (h T1 locs X1 N (by rw [e1]; exact RR)).back st
theorem go_putfieldN {i j idx kk : Nat} {Cn n d : String} {fs : List (String × String × Value)} {v v' o : Value} {ty : FieldType} (hd : Dc bytes pc (.putfield idx) 3 nx) (w : Jvm.Cond.fieldLink y.cls idx Cn n d ∈ W) (wl : Jvm.Cond.lays Cn Cn n d ∈ W ∨ (Jvm.Cond.laysFinal Cn Cn n d ∈ W ∧ y.cls = Cn ∧ y.name = "<init>")) (wi : Jvm.Cond.instantiable Cn kk ∈ W) (hty : parseFieldDescriptor d = some ty) (hH : H[i]? = some (ob Cn fs)) (hf : fs[j]? = some (n, d, o)) (hn : narrow ty (upV b v) = upV b v') (hfit : fits ty (upV b v') = true)
    (h : Go C nx L S (H.set i (ob Cn (fs.set j (n, d, v')))) cells slots) : Go C pc L (v :: .ref i :: S) H cells slots := by
  intro T locs X N RR
  obtain ⟨hd, rfl⟩ := hd
  have K : CellOk Z a0 b T.heap (b + i) (ob Cn fs) := RR.2 i _ hH
  obtain ⟨T1, h1, X1, e1, W1, st⟩ := putFN X C.exec C.warm C.own (C.hw _ w) Via.refl rfl (K.2.1 _ (List.mem_of_getElem? hf)).1 K.1 (wl.imp (fun q => C.hw _ q) (fun q => ⟨C.hw _ q.1, q.2.1, C.named.trans q.2.2⟩)) (C.hw _ wi) hty hn hfit (g := frm b m pc L (v :: .ref i :: S)) rfl rfl (hb C.bys hd)
  exact (h T1 _ X1 (Fr.snoc X1 N (Nat.le_add_right ..)) (by rw [e1]; exact RR.wr W1 (K.fset hf W1))).back st
theorem go_putfield {i j idx kk : Nat} {Cn n d : String} {fs : List (String × String × Value)} {v o : Value} {ty : FieldType} (hd : Dc bytes pc (.putfield idx) 3 nx) (w : Jvm.Cond.fieldLink y.cls idx Cn n d ∈ W) (wl : Jvm.Cond.lays Cn Cn n d ∈ W ∨ (Jvm.Cond.laysFinal Cn Cn n d ∈ W ∧ y.cls = Cn ∧ y.name = "<init>")) (wi : Jvm.Cond.instantiable Cn kk ∈ W) (hty : parseFieldDescriptor d = some ty) (hH : H[i]? = some (ob Cn fs)) (hf : fs[j]? = some (n, d, o)) (hn : narrow ty (upV b v) = upV b v) (hfit : fits ty (upV b v) = true)
    (h : Go C nx L S (H.set i (ob Cn (fs.set j (n, d, v)))) cells slots) : Go C pc L (v :: .ref i :: S) H cells slots := go_putfieldN hd w wl wi hty hH hf hn hfit h
theorem go_iastore {i k : Nat} {vs : List Value} {j : Int32} {x : Int32} (hd : Dc bytes pc .iastore 1 nx) (hH : H[i]? = some (ar .int vs)) (hj : j.toInt = (k : Int)) (hk : k < vs.length) (h : Go C nx L S (H.set i (ar .int (vs.set k (.int (x))))) cells slots) : Go C pc L (.int x :: .int j :: .ref i :: S) H cells slots := by
  intro T locs X N RR
  obtain ⟨c1, A, e1⟩ := cell_arr RR hH
  obtain ⟨hd, rfl⟩ := hd
  obtain ⟨T1, h1, X1, eh, W1, st⟩ := stI X C.exec C.warm rfl A (j := j) (idx_ok hj (by rw [e1]; simpa using hk)) (g := frm b m pc L (.int x :: .int j :: .ref i :: S)) rfl rfl (hb C.bys hd)
  rw [clamp_eq hj] at W1
  have K : CellOk Z a0 b h1 (b + i) (ar .int (vs.set k (.int (x)))) := ⟨_, A.same W1, by simp [Cell.setSlot, e1, List.map_set, upV, nar]⟩
  exact (h T1 _ X1 (Fr.snoc X1 N (Nat.le_add_right ..)) (by rw [eh]; exact RR.wr W1 K)).back st
theorem go_lastore {i k : Nat} {vs : List Value} {j : Int32} {x : Int64} (hd : Dc bytes pc .lastore 1 nx) (hH : H[i]? = some (ar .long vs)) (hj : j.toInt = (k : Int)) (hk : k < vs.length) (h : Go C nx L S (H.set i (ar .long (vs.set k (.long (x))))) cells slots) : Go C pc L (.long x :: .int j :: .ref i :: S) H cells slots := by
  intro T locs X N RR
  obtain ⟨c1, A, e1⟩ := cell_arr RR hH
  obtain ⟨hd, rfl⟩ := hd
  obtain ⟨T1, h1, X1, eh, W1, st⟩ := stJ X C.exec C.warm rfl A (j := j) (idx_ok hj (by rw [e1]; simpa using hk)) (g := frm b m pc L (.long x :: .int j :: .ref i :: S)) rfl rfl (hb C.bys hd)
  rw [clamp_eq hj] at W1
  have K : CellOk Z a0 b h1 (b + i) (ar .long (vs.set k (.long (x)))) := ⟨_, A.same W1, by simp [Cell.setSlot, e1, List.map_set, upV, nar]⟩
  exact (h T1 _ X1 (Fr.snoc X1 N (Nat.le_add_right ..)) (by rw [eh]; exact RR.wr W1 K)).back st
theorem go_bastore {i k : Nat} {vs : List Value} {j : Int32} {x : Int32} (hd : Dc bytes pc .bastore 1 nx) (hH : H[i]? = some (ar .byte vs)) (hj : j.toInt = (k : Int)) (hk : k < vs.length) (h : Go C nx L S (H.set i (ar .byte (vs.set k (.int (x.toInt8.toInt32))))) cells slots) : Go C pc L (.int x :: .int j :: .ref i :: S) H cells slots := by
  intro T locs X N RR
  obtain ⟨c1, A, e1⟩ := cell_arr RR hH
  obtain ⟨hd, rfl⟩ := hd
  obtain ⟨T1, h1, X1, eh, W1, st⟩ := stB X C.exec C.warm rfl A (j := j) (idx_ok hj (by rw [e1]; simpa using hk)) (g := frm b m pc L (.int x :: .int j :: .ref i :: S)) rfl rfl (hb C.bys hd)
  rw [clamp_eq hj] at W1
  have K : CellOk Z a0 b h1 (b + i) (ar .byte (vs.set k (.int (x.toInt8.toInt32)))) := ⟨_, A.same W1, by simp [Cell.setSlot, e1, List.map_set, upV, nar]⟩
  exact (h T1 _ X1 (Fr.snoc X1 N (Nat.le_add_right ..)) (by rw [eh]; exact RR.wr W1 K)).back st
theorem go_zastore {i k : Nat} {vs : List Value} {j : Int32} {x : Int32} (hd : Dc bytes pc .bastore 1 nx) (hH : H[i]? = some (ar .boolean vs)) (hj : j.toInt = (k : Int)) (hk : k < vs.length) (h : Go C nx L S (H.set i (ar .boolean (vs.set k (.int (x &&& 1))))) cells slots) : Go C pc L (.int x :: .int j :: .ref i :: S) H cells slots := by
  intro T locs X N RR
  obtain ⟨c1, A, e1⟩ := cell_arr RR hH
  obtain ⟨hd, rfl⟩ := hd
  obtain ⟨T1, h1, X1, eh, W1, st⟩ := stZ X C.exec C.warm rfl A (j := j) (idx_ok hj (by rw [e1]; simpa using hk)) (g := frm b m pc L (.int x :: .int j :: .ref i :: S)) rfl rfl (hb C.bys hd)
  rw [clamp_eq hj] at W1
  have K : CellOk Z a0 b h1 (b + i) (ar .boolean (vs.set k (.int (x &&& 1)))) := ⟨_, A.same W1, by simp [Cell.setSlot, e1, List.map_set, upV, nar]⟩
  exact (h T1 _ X1 (Fr.snoc X1 N (Nat.le_add_right ..)) (by rw [eh]; exact RR.wr W1 K)).back st
/-- the fields of a new object, laid -/
def Laids (Z : State) (a0 : Array Value) (b : Nat) (Cn : String) : List (String × String × Value) → Prop
  | [] => True
  | f :: fs => (Laid Z a0 Cn Cn f.1 f.2.1 ∧ ∃ t, parseFieldDescriptor f.2.1 = some t ∧ defaultValue t = upV b f.2.2) ∧ Laids Z a0 b Cn fs
theorem Laids.all {Cn : String} : ∀ {fs : List (String × String × Value)}, Laids Z a0 b Cn fs → ∀ f ∈ fs, Laid Z a0 Cn Cn f.1 f.2.1 ∧ ∃ t, parseFieldDescriptor f.2.1 = some t ∧ defaultValue t = upV b f.2.2
  | [], _, f, hf => by cases hf
  | g :: gs, h, f, hf => by
    rcases List.mem_cons.mp hf with rfl | hf
    · exact h.1
    · exact Laids.all h.2 f hf
theorem go_new {idx n : Nat} {Cn : String} {fs : List (String × String × Value)} (hd : Dc bytes pc (.new idx) 3 nx) (w : Jvm.Cond.classLink y.cls idx Cn ∈ W) (wi : Jvm.Cond.instantiable Cn n ∈ W) (wz : Jvm.Cond.initialized Cn ∈ W) (hl : Laids Z a0 b Cn fs) (hnd : (fs.map (·.1)).Nodup) (hc : cells + 1 ≤ R.cells) (hs : slots + n ≤ R.slots)
    (h : Go C nx L (.ref H.length :: S) (H ++ [ob Cn fs]) (cells + 1) (slots + n)) : Go C pc L S H cells slots := by
  intro T locs X N RR
  obtain ⟨hd, rfl⟩ := hd
  obtain ⟨vm', cC, kC, h1, h2, h3, h4, X', st⟩ := X.newCold C.exec C.own (mv C.warm (C.hw _ w)) (mv C.warm (C.hw _ wi)) (mv C.warm (C.hw _ wz)) (g := frm b m pc L S) rfl (hb C.bys hd) hc hs
  rw [C.warm.alike.findClass] at h1
  obtain ⟨kZ, z1, -⟩ := Vm.findClass_spec h1
  obtain ⟨k', z2, z3⟩ := C.warm.alike.2.2 _ _ z1
  cases h2.symm.trans z2
  have ei : kC.instanceTypes = kZ.instanceTypes := by rw [z3]
  have hN : (T.heap.push { cls := cC, slots := kC.instanceTypes.map defaultValue, vm := .none })[T.heap.size]? = some { cls := cC, slots := kC.instanceTypes.map defaultValue, vm := .none } := by simp
  have hE : Ext T.heap (T.heap.push { cls := cC, slots := kC.instanceTypes.map defaultValue, vm := .none }) := ⟨by simp, fun a c q => by
    rw [Array.getElem?_push_lt (Array.getElem?_eq_some_iff.mp q).1]; exact (Array.getElem?_eq_getElem _).symm.trans q⟩
  have ea : T.heap.size = b + H.length := RR.1
  have st2 := st
  rw [ea] at st2
  refine (h _ locs X' N (RR.push hE (by simp) ?_)).back st2
  rw [← ea]
  refine ⟨⟨_, kZ, hN, h1, z1, rfl, fun _ => by simp [ei]⟩, fun f hf => ?_, hnd⟩
  obtain ⟨La, t, ht, hdv⟩ := hl.all f hf
  refine ⟨?_, La, t, ht⟩
  obtain ⟨c1, k1, cf, kf, i, ff, a1, a2, a3, a4, a5, a6, -⟩ := La.spec
  cases h1.symm.trans a1
  cases z1.symm.trans a2
  exact ⟨_, cf, kf, i, ff, hN, a3, a4, by simp, rfl, a5, by simp [ei, a6, (State.fieldFound?_type a3 ht).2, hdv]⟩
theorem up_default (t : FieldType) : upV b (defaultValue t) = defaultValue t := by cases t <;> rfl
theorem go_newarray {aty : ArrayType} {n : Int32} {k cap : Nat} {vs : List Value} (hd : Dc bytes pc (.newarray aty) 2 nx) (w : Jvm.Cond.arrayClass (newarray.typeOf aty) ∈ W) (hn : n.toInt = (k : Int)) (hv : List.replicate k (defaultValue (newarray.typeOf aty)) = vs) (hcap : k ≤ cap) (hbig : cap * 8 ≤ 536870912) (hc : cells + 1 ≤ R.cells) (hs : slots + cap ≤ R.slots)
    (h : Go C nx L (.ref H.length :: S) (H ++ [ar (newarray.typeOf aty) vs]) (cells + 1) (slots + cap)) : Go C pc L (.int n :: S) H cells slots := by
  intro T locs X N RR
  obtain ⟨hd, rfl⟩ := hd
  have hcb : componentBytes (newarray.typeOf aty) ≤ 8 := by cases aty <;> decide
  have ek := clamp_eq hn
  obtain ⟨cA, kA, comp, h1, h2, h3, X', st⟩ := X.newarrayPrim C.exec (mvA C.warm (C.hw _ w)) (g := frm b m pc L (.int n :: S)) rfl (hb C.bys hd) rfl (by rw [Int32.lt_iff_toInt_lt, hn]; have : (0 : Int32).toInt = 0 := rfl; omega) (by rw [ek]; exact Nat.le_trans (Nat.mul_le_mul hcap hcb) hbig) hc (by omega)
  rw [ek] at X' st
  rw [C.warm.alike.findClass] at h1
  obtain ⟨kZ, z1, -⟩ := Vm.findClass_spec h1
  obtain ⟨k', z2, z3⟩ := C.warm.alike.2.2 _ _ z1
  cases h2.symm.trans z2
  have ea : T.heap.size = b + H.length := RR.1
  have hE : Ext T.heap (T.heap.push { cls := cA, slots := Array.replicate k (defaultValue (newarray.typeOf aty)), vm := .none }) := ⟨by simp, fun a c q => by
    rw [Array.getElem?_push_lt (Array.getElem?_eq_some_iff.mp q).1]; exact (Array.getElem?_eq_getElem _).symm.trans q⟩
  have st2 := st
  rw [ea] at st2
  refine (h _ locs (X'.more (Nat.le_refl _) (by omega)) N (RR.push hE (by simp) ?_)).back st2
  rw [← ea]
  refine ⟨_, ⟨by show (T.heap.push _)[T.heap.size]? = _; simp; rfl, ⟨by simp, kZ, z1, comp, by rw [← h3, z3]⟩, by simp⟩, ?_⟩
  subst hv
  simp [up_default]
/-! ### calls -/
theorem go_initO {idx : Nat} (hd : Dc bytes pc (.invokespecial idx) 3 nx) (w1 : Jvm.Cond.methodLink y.cls idx Lib.objectInit ∈ W) (w2 : Jvm.Cond.instanceMethod Lib.objectInit ∈ W) (w3 : Jvm.Cond.code Lib.objectInit ⟨#[0xb1]⟩ 1 none ∈ W) (hL : L.length = nL) (hf : 1 ≤ R.frames) (wdt : Nat) (hwd : (S.map Value.category).sum ≤ wdt) (hlo : wdt + 12 ≤ R.locals) {i : Nat}
    (h : Go C nx L S H cells slots) : Go C pc L (.ref i :: S) H cells slots := by
  intro T locs X N RR
  obtain ⟨hd, rfl⟩ := hd
  obtain ⟨T1, X1, e1, st⟩ := initO X C.exec C.warm C.own (C.hw _ w1) (C.hw _ w2) (C.hw _ w3) rfl (g := frm b m pc L (.ref i :: S)) rfl (by simp [C.ml, hL]) rfl (hb C.bys hd) hf (W := wdt) (by
    have : ((S.map (upV b)).map fun v => v.category) = S.map Value.category := by rw [List.map_map]; exact List.map_congr_left fun v _ => cat_up b v
    show 2 * 0 + ((S.map (upV b)).map fun v => v.category).sum ≤ wdt
    rw [this]; omega) hlo
  exact (h T1 locs X1 N (by rw [e1]; exact RR)).back st
theorem wid_up (wdt : Nat) (hwd : (S.map Value.category).sum ≤ wdt) : 2 * 0 + ((S.map (upV b)).map fun v => v.category).sum ≤ wdt := by
  have : ((S.map (upV b)).map fun v => v.category) = S.map Value.category := by rw [List.map_map]; exact List.map_congr_left fun v _ => cat_up b v
  rw [this]; omega
theorem app_up (v : Option Value) : (v.map (upV b)).toList ++ S.map (upV b) = (v.toList ++ S).map (upV b) := by cases v <;> rfl
theorem go_virtual {y' : MethodName} {bytes' : ByteArray} {maxL : Nat} {ret' : Option FieldType} {rm : Room} {as : List Value} {i idx : Nat} {Cn : String} {fs : List (String × String × Value)} {P : Option Value → List GCell → Prop} {ps : List FieldType} {rt : Option FieldType}
    (hd : Dc bytes pc (.invokevirtual idx) 3 nx) (w1 : Jvm.Cond.methodLink y.cls idx y' ∈ W) (w2 : Jvm.Cond.declares y' ∈ W) (w3 : Jvm.Cond.selects Cn y' y' ∈ W) (w4 : Jvm.Cond.instanceMethod y' ∈ W) (w5 : Jvm.Cond.code y' bytes' maxL ret' ∈ W) (w6 : Jvm.Cond.initialized y'.cls ∈ W)
    (hy : y'.cls ≠ "java/lang/invoke/MethodHandle" ∧ y'.cls ≠ "java/lang/invoke/VarHandle") (hdesc : parseMethodDescriptor y'.desc = some ⟨ps, rt⟩) (hlen : as.length = ps.length)
    (M : Met l Z a0 b y' bytes' maxL ret' rm (.ref i :: as) H P) (hH : H[i]? = some (ob Cn fs)) (hS : S' = as.reverse ++ .ref i :: S) (hL : L.length = nL) (wdt : Nat) (hwd : (S.map Value.category).sum ≤ wdt)
    (hfr : rm.frames + 1 ≤ R.frames) (hlo : wdt + (maxL + 11) + rm.locals ≤ R.locals) (hc : cells + rm.cells ≤ R.cells) (hs : slots + rm.slots ≤ R.slots)
    (h : ∀ v H', P v H' → Go C nx L (v.toList ++ S) H' (cells + rm.cells) (slots + rm.slots)) : Go C pc L S' H cells slots := by
  intro T locs X N RR
  obtain ⟨hd, rfl⟩ := hd
  subst hS
  have E : Exa Z T.heap (b + i) Cn := (show CellOk Z a0 b T.heap (b + i) (ob Cn fs) from RR.2 i _ hH).1
  obtain ⟨cB, kB, q1, q2, q3⟩ := isOf (T := T) C.warm rfl E
  obtain ⟨_, _, ⟨T', L', k', n'⟩, -, X', ⟨Lc, hQ, l', y1, z1⟩, st⟩ := X.virtualBack C.exec (y := y') (z := y') C.own (mvT C.warm (C.hw _ w1)) (mvT C.warm (C.hw _ w2)) (notFace_of_selects (args := #[]) (mvT C.warm (C.hw _ w3))) (mvT C.warm (C.hw _ w3)) (mvT C.warm (C.hw _ w4)) hy
    (backOf (W := wdt) (M T.heap RR []) C.warm (C.hw _ w5) (C.hw _ w6) hfr hlo) q1 q3 (g := frm b m pc L (as.reverse ++ .ref i :: S)) rfl (by simp [C.ml, hL]) (Steps.refl _) (argsL := as.map (upV b)) (rest := S.map (upV b)) (lenOf hdesc (by simp [hlen])) (by simp [upV]) (wid_up wdt hwd) (hb C.bys hd) (fun _ _ => ⟨by simp [upV], rfl, hc, hs⟩)
  dsimp only [Pt.U, Pt.locs, Pt.cells, Pt.slots] at X' l' y1 z1 st hQ
  subst l' y1 z1
  obtain ⟨N2, v', H', rfl, RR', hP⟩ := hQ
  refine (h v' H' hP T' _ X' (Fr.app N N2) RR').back fun t k => st.trans ?_
  rw [app_up]
  exact k
theorem go_special {y' : MethodName} {bytes' : ByteArray} {maxL : Nat} {rm : Room} {as : List Value} {i idx : Nat} {P : Option Value → List GCell → Prop} {ps : List FieldType} {rt : Option FieldType} (hn : y'.name = "<init>")
    (hd : Dc bytes pc (.invokespecial idx) 3 nx) (w1 : Jvm.Cond.methodLink y.cls idx y' ∈ W) (w4 : Jvm.Cond.instanceMethod y' ∈ W) (w5 : Jvm.Cond.code y' bytes' maxL none ∈ W) (w6 : Jvm.Cond.initialized y'.cls ∈ W)
    (hy : y'.cls ≠ "java/lang/invoke/MethodHandle" ∧ y'.cls ≠ "java/lang/invoke/VarHandle") (hdesc : parseMethodDescriptor y'.desc = some ⟨ps, rt⟩) (hlen : as.length = ps.length)
    (M : Met l Z a0 b y' bytes' maxL none rm (.ref i :: as) H P) (hS : S' = as.reverse ++ .ref i :: S) (hL : L.length = nL) (wdt : Nat) (hwd : (S.map Value.category).sum ≤ wdt)
    (hfr : rm.frames + 1 ≤ R.frames) (hlo : wdt + (maxL + 11) + rm.locals ≤ R.locals) (hc : cells + rm.cells ≤ R.cells) (hs : slots + rm.slots ≤ R.slots)
    (h : ∀ v H', P v H' → Go C nx L (v.toList ++ S) H' (cells + rm.cells) (slots + rm.slots)) : Go C pc L S' H cells slots := by
  intro T locs X N RR
  obtain ⟨hd, rfl⟩ := hd
  subst hS
  obtain ⟨_, _, ⟨T', L', k', n'⟩, -, X', ⟨Lc, hQ, l', y1, z1⟩, st⟩ := X.specialBack C.exec (y := y') hn C.own (mvT C.warm (C.hw _ w1)) (mvT C.warm (C.hw _ w4)) (mvT C.warm (C.hw _ w5)) hy
    (backOf (W := wdt) (M T.heap RR []) C.warm (C.hw _ w5) (C.hw _ w6) hfr hlo) (g := frm b m pc L (as.reverse ++ .ref i :: S)) rfl (by simp [C.ml, hL]) (Steps.refl _) (a := b + i) (argsL := as.map (upV b)) (rest := S.map (upV b)) (lenOf hdesc (by simp [hlen])) (by simp [upV]) (wid_up wdt hwd) (hb C.bys hd) (fun _ _ => ⟨by simp [upV], rfl, hc, hs⟩)
  dsimp only [Pt.U, Pt.locs, Pt.cells, Pt.slots] at X' l' y1 z1 st hQ
  subst l' y1 z1
  obtain ⟨N2, v', H', rfl, RR', hP⟩ := hQ
  refine (h v' H' hP T' _ X' (Fr.app N N2) RR').back fun t k => st.trans ?_
  rw [app_up]
  exact k
theorem go_static {y' : MethodName} {bytes' : ByteArray} {maxL : Nat} {ret' : Option FieldType} {rm : Room} {as : List Value} {idx : Nat} {P : Option Value → List GCell → Prop} {ps : List FieldType} {rt : Option FieldType}
    (hd : Dc bytes pc (.invokestatic idx) 3 nx) (w1 : Jvm.Cond.methodLink y.cls idx y' ∈ W) (w2 : Jvm.Cond.static y' ∈ W) (w5 : Jvm.Cond.code y' bytes' maxL ret' ∈ W) (w6 : Jvm.Cond.initialized y'.cls ∈ W)
    (hy : y'.cls ≠ "java/lang/invoke/MethodHandle" ∧ y'.cls ≠ "java/lang/invoke/VarHandle") (hdesc : parseMethodDescriptor y'.desc = some ⟨ps, rt⟩) (hlen : as.length = ps.length)
    (M : Met l Z a0 b y' bytes' maxL ret' rm as H P) (hS : S' = as.reverse ++ S) (hL : L.length = nL) (wdt : Nat) (hwd : (S.map Value.category).sum ≤ wdt)
    (hfr : rm.frames + 1 ≤ R.frames) (hlo : wdt + (maxL + 11) + rm.locals ≤ R.locals) (hc : cells + rm.cells ≤ R.cells) (hs : slots + rm.slots ≤ R.slots)
    (h : ∀ v H', P v H' → Go C nx L (v.toList ++ S) H' (cells + rm.cells) (slots + rm.slots)) : Go C pc L S' H cells slots := by
  intro T locs X N RR
  obtain ⟨hd, rfl⟩ := hd
  subst hS
  obtain ⟨_, _, ⟨T', L', k', n'⟩, -, X', ⟨Lc, hQ, l', y1, z1⟩, st⟩ := Jvm.LawKit.callS X C.exec (y := y') C.own (mvT C.warm (C.hw _ w1)) (mvT C.warm (C.hw _ w2)) (mvT C.warm (C.hw _ w6)) (mvT C.warm (C.hw _ w5)) hy
    (backOf (W := wdt) (M T.heap RR []) C.warm (C.hw _ w5) (C.hw _ w6) hfr hlo) (g := frm b m pc L (as.reverse ++ S)) rfl (by simp [C.ml, hL]) (argsL := as.map (upV b)) (rest := S.map (upV b)) (lenOf hdesc (by simp [hlen])) (by simp) (wid_up wdt hwd) (hb C.bys hd) (fun _ _ => ⟨by simp, rfl, hc, hs⟩)
  dsimp only [Pt.U, Pt.locs, Pt.cells, Pt.slots] at X' l' y1 z1 st hQ
  subst l' y1 z1
  obtain ⟨N2, v', H', rfl, RR', hP⟩ := hQ
  refine (h v' H' hP T' _ X' (Fr.app N N2) RR').back fun t k => st _ ?_
  rw [app_up]
  exact k
/-! ### the end -/
theorem go_ret {w w' : Value} {t : FieldType} {i : Instr} (hd : Dc bytes pc i 1 nx) (hret : ret = some t) (hn : narrow t (upV b w) = upV b w)
    (hi : (i = .ireturn ∧ (t = .int ∨ t = .boolean ∨ t = .byte ∨ t = .char ∨ t = .short) ∧ ∃ z, w = .int z) ∨ (i = .lreturn ∧ t = .long ∧ ∃ z, w = .long z) ∨ (i = .areturn ∧ t.isReference = true ∧ w.isRef = true))
    (hc : cells ≤ R.cells) (hs : slots ≤ R.slots) (h : Post (some w) H) : Go C pc L (w :: S) H cells slots := by
  intro T locs X N RR
  obtain ⟨fs, hr, hrun, hended, hW, hsame⟩ := X.leave (v := some (upV b w)) (fun q => by rw [C.rets, hret] at q; cases q) C.nolock
  refine ⟨_, _, retOut X C.exec (t := t) (i := i) (C.rets.trans hret) hn ?_ (hb C.bys hd.1) hr, hrun, hended, _, locs, rfl, ⟨N, some w, H, rfl, RR, h⟩, ⟨_, rfl⟩, hW, hsame.mono hc hs⟩
  rcases hi with ⟨h1, h2, z, rfl⟩ | ⟨h1, h2, z, rfl⟩ | ⟨h1, h2, h3⟩
  · exact Or.inl ⟨h1, h2, z, rfl⟩
  · exact Or.inr (Or.inl ⟨h1, h2, z, rfl⟩)
  · exact Or.inr (Or.inr (Or.inr (Or.inr ⟨h1, h2, (isRef_up b w).trans h3⟩)))
theorem go_ireturn {x : Int32} (hd : Dc bytes pc .ireturn 1 nx) (hret : ret = some .int) (hc : cells ≤ R.cells) (hs : slots ≤ R.slots) (h : Post (some (.int x)) H) : Go C pc L (.int x :: S) H cells slots :=
  go_ret (w' := .null) hd hret rfl (Or.inl ⟨rfl, Or.inl rfl, _, rfl⟩) hc hs h
theorem go_zreturn {x : Int32} (hd : Dc bytes pc .ireturn 1 nx) (hret : ret = some .boolean) (hz : x &&& 1 = x) (hc : cells ≤ R.cells) (hs : slots ≤ R.slots) (h : Post (some (.int x)) H) : Go C pc L (.int x :: S) H cells slots :=
  go_ret (w' := .null) hd hret (by show Value.int (x &&& 1) = .int x; rw [hz]) (Or.inl ⟨rfl, Or.inr (Or.inl rfl), _, rfl⟩) hc hs h
theorem go_breturn {x : Int32} (hd : Dc bytes pc .ireturn 1 nx) (hret : ret = some .byte) (hz : x.toInt8.toInt32 = x) (hc : cells ≤ R.cells) (hs : slots ≤ R.slots) (h : Post (some (.int x)) H) : Go C pc L (.int x :: S) H cells slots :=
  go_ret (w' := .null) hd hret (by show Value.int (x.toInt8.toInt32) = .int x; rw [hz]) (Or.inl ⟨rfl, Or.inr (Or.inr (Or.inl rfl)), _, rfl⟩) hc hs h
theorem go_lreturn {x : Int64} (hd : Dc bytes pc .lreturn 1 nx) (hret : ret = some .long) (hc : cells ≤ R.cells) (hs : slots ≤ R.slots) (h : Post (some (.long x)) H) : Go C pc L (.long x :: S) H cells slots :=
  go_ret (w' := .null) hd hret rfl (Or.inr (Or.inl ⟨rfl, rfl, _, rfl⟩)) hc hs h
theorem narrow_ref {t : FieldType} (ht : t.isReference = true) (v : Value) : narrow t v = v := by cases t <;> first | rfl | cases ht
theorem go_areturn {v : Value} {t : FieldType} (hd : Dc bytes pc .areturn 1 nx) (hret : ret = some t) (ht : t.isReference = true) (hv : v.isRef = true) (hc : cells ≤ R.cells) (hs : slots ≤ R.slots) (h : Post (some v) H) : Go C pc L (v :: S) H cells slots :=
  go_ret (w' := .null) hd hret (narrow_ref ht _) (Or.inr (Or.inr ⟨rfl, ht, hv⟩)) hc hs h
theorem go_return (hd : Dc bytes pc .return_ 1 nx) (hret : ret = none) (hc : cells ≤ R.cells) (hs : slots ≤ R.slots) (h : Post none H) : Go C pc L [] H cells slots := by
  intro T locs X N RR
  obtain ⟨fs, hr, hrun, hended, hW, hsame⟩ := X.leave (v := none) (fun _ => rfl) C.nolock
  exact ⟨_, _, X.returnOut C.exec (C.rets.trans hret) (hb C.bys hd.1) hr, hrun, hended, _, locs, rfl, ⟨N, none, H, rfl, RR, h⟩, ⟨_, rfl⟩, hW, hsame.mono hc hs⟩
def fillL : List Value → List Slot
  | [] => []
  | v :: vs => if v.category = 2 then .val v :: .second :: fillL vs else .val v :: fillL vs
def locs0 (as : List Value) (nL : Nat) : List Slot := fillL as ++ List.replicate (nL - (fillL as).length) .unset
theorem fill_foldl (as : List Value) : ∀ acc : Array Slot, (as.map (upV b)).foldl (fun acc v => if v.category = 2 then (acc.push (.val v)).push .second else acc.push (.val v)) acc = acc ++ ((fillL as).map (upS b)).toArray := by
  induction as with
  | nil => intro acc; simp [fillL]
  | cons v vs ih =>
    intro acc
    simp only [List.map_cons, List.foldl_cons, cat_up, fillL]
    by_cases q : v.category = 2
    · rw [if_pos q, if_pos q, ih]
      simp [upS, ← Array.toList_inj]
    · rw [if_neg q, if_neg q, ih]
      simp [upS, ← Array.toList_inj]
theorem entry_up (m : MethodId) (as : List Value) (nL : Nat) : entryFrame m (as.map (upV b)).toArray nL = frm b m 0 (locs0 as nL) [] := by
  have e := fill_foldl (b := b) as #[]
  have e1 : argsToLocals (as.map (upV b)).toArray nL = ((locs0 as nL).map (upS b)).toArray := by
    simp only [argsToLocals, List.foldl_toArray', List.size_toArray, List.foldl_toArray]
    rw [e]
    simp [locs0, upS, ← Array.toList_inj]
  simp [entryFrame, e1]
end Walk
theorem Met.of_go {l : Launch} {Z : State} {a0 : Array Value} {W : List Jvm.Cond} {b : Nat} {y : MethodName} {bytes : ByteArray} {nL : Nat} {ret : Option FieldType} {rm : Room} {as : List Value} {H : List GCell} {Post : Option Value → List GCell → Prop} (hw : ∀ d ∈ W, d.before a0 Z = true) (hp : plainFor y = true) {L0 : List Slot} (hL : locs0 as nL = L0)
    (body : ∀ p e s m args below meth c (C : Cx p l e rm s m args below meth c Z a0 W b y bytes nL ret Post), Go C 0 L0 [] H 0 0) : Met l Z a0 b y bytes nL ret rm as H Post := by
  intro h RR ws
  refine MetFree.of_bodySF hp hisR ?_
  intro p e s m args below meth c s₁ Bd hml0 hP hK
  obtain ⟨rfl, hZ, hh⟩ := hP
  have C : Cx p l e rm s m (as.map (upV b)).toArray below meth c Z a0 W b y bytes nL ret Post := ⟨Bd.exec, hZ, findClass_of_methodNamed Bd.named, Bd.bytes, hml0, Bd.returns, Bd.notSynchronized, (name_of_methodNamed Bd.named Bd.method).1, hw⟩
  have X0 : Stand p l e rm s m (as.map (upV b)).toArray below meth c s₁ [] 0 0 := Stand.of_body Bd
  have e0 : s₁.heap = h := by rw [← hh, Bd.state]; rfl
  have g := body p e s m _ below meth c C s₁ [] X0 (Fr.nil b) (by rw [e0]; exact RR)
  obtain ⟨s₂, o, hs, hr⟩ := g
  refine ⟨s₂, o, ?_, hr⟩
  rw [entry_up, hL]
  exact hs
section Places
variable {p : Program} {l : Launch} {e : Env} {R : Room} {s : State} {m : MethodId} {args : Array Value} {below : List Frame} {meth : Method} {c : Code} {Z : State} {a0 : Array Value} {W : List Jvm.Cond} {b : Nat} {y : MethodName} {bytes : ByteArray} {nL : Nat} {ret : Option FieldType} {Post : Option Value → List GCell → Prop} {C : Cx p l e R s m args below meth c Z a0 W b y bytes nL ret Post} {pc nx tg : Nat} {L L' : List Slot} {S S' : List Value} {H H' : List GCell} {cells slots : Nat}
theorem go_istore_4 {s0 s1 s2 s3 o : Slot} {x : Int32} (hd : Dc bytes pc (.istore 4) 2 nx) (ho : oneS o = true) (h : Go C nx (s0 :: s1 :: s2 :: s3 :: .val (.int x) :: L) S H cells slots) : Go C pc (s0 :: s1 :: s2 :: s3 :: o :: L) (.int x :: S) H cells slots := go_istore hd rfl ho h
theorem go_istoreX_4 {s0 s1 s2 s3 o : Slot} {x : Int32} (hd : Dc bytes pc (.istore 4) 2 nx) (ho : oneS o = true) (h : ∀ x', x' = x → Go C nx (s0 :: s1 :: s2 :: s3 :: .val (.int x') :: L) S H cells slots) : Go C pc (s0 :: s1 :: s2 :: s3 :: o :: L) (.int x :: S) H cells slots := go_istore hd rfl ho (h x rfl)
theorem go_iinc_4 {s0 s1 s2 s3 : Slot} {x z : Int32} {i : Int} (hd : Dc bytes pc (.iinc 4 i) 3 nx) (hz : Int32.ofInt i = z) (h : Go C nx (s0 :: s1 :: s2 :: s3 :: .val (.int (x + z)) :: L) S H cells slots) : Go C pc (s0 :: s1 :: s2 :: s3 :: .val (.int x) :: L) S H cells slots := go_iinc hd rfl hz h
theorem go_istore_5 {s0 s1 s2 s3 s4 o : Slot} {x : Int32} (hd : Dc bytes pc (.istore 5) 2 nx) (ho : oneS o = true) (h : Go C nx (s0 :: s1 :: s2 :: s3 :: s4 :: .val (.int x) :: L) S H cells slots) : Go C pc (s0 :: s1 :: s2 :: s3 :: s4 :: o :: L) (.int x :: S) H cells slots := go_istore hd rfl ho h
theorem go_istoreX_5 {s0 s1 s2 s3 s4 o : Slot} {x : Int32} (hd : Dc bytes pc (.istore 5) 2 nx) (ho : oneS o = true) (h : ∀ x', x' = x → Go C nx (s0 :: s1 :: s2 :: s3 :: s4 :: .val (.int x') :: L) S H cells slots) : Go C pc (s0 :: s1 :: s2 :: s3 :: s4 :: o :: L) (.int x :: S) H cells slots := go_istore hd rfl ho (h x rfl)
theorem go_iinc_5 {s0 s1 s2 s3 s4 : Slot} {x z : Int32} {i : Int} (hd : Dc bytes pc (.iinc 5 i) 3 nx) (hz : Int32.ofInt i = z) (h : Go C nx (s0 :: s1 :: s2 :: s3 :: s4 :: .val (.int (x + z)) :: L) S H cells slots) : Go C pc (s0 :: s1 :: s2 :: s3 :: s4 :: .val (.int x) :: L) S H cells slots := go_iinc hd rfl hz h
theorem go_istore_6 {s0 s1 s2 s3 s4 s5 o : Slot} {x : Int32} (hd : Dc bytes pc (.istore 6) 2 nx) (ho : oneS o = true) (h : Go C nx (s0 :: s1 :: s2 :: s3 :: s4 :: s5 :: .val (.int x) :: L) S H cells slots) : Go C pc (s0 :: s1 :: s2 :: s3 :: s4 :: s5 :: o :: L) (.int x :: S) H cells slots := go_istore hd rfl ho h
theorem go_istoreX_6 {s0 s1 s2 s3 s4 s5 o : Slot} {x : Int32} (hd : Dc bytes pc (.istore 6) 2 nx) (ho : oneS o = true) (h : ∀ x', x' = x → Go C nx (s0 :: s1 :: s2 :: s3 :: s4 :: s5 :: .val (.int x') :: L) S H cells slots) : Go C pc (s0 :: s1 :: s2 :: s3 :: s4 :: s5 :: o :: L) (.int x :: S) H cells slots := go_istore hd rfl ho (h x rfl)
theorem go_istoreX_7 {s0 s1 s2 s3 s4 s5 s6 o : Slot} {x : Int32} (hd : Dc bytes pc (.istore 7) 2 nx) (ho : oneS o = true) (h : ∀ x', x' = x → Go C nx (s0 :: s1 :: s2 :: s3 :: s4 :: s5 :: s6 :: .val (.int x') :: L) S H cells slots) : Go C pc (s0 :: s1 :: s2 :: s3 :: s4 :: s5 :: s6 :: o :: L) (.int x :: S) H cells slots := go_istore hd rfl ho (h x rfl)
theorem go_astore_8 {s0 s1 s2 s3 s4 s5 s6 s7 o : Slot} {v : Value} (hd : Dc bytes pc (.astore 8) 2 nx) (ho : oneS o = true) (hv : v.isRef = true) (h : Go C nx (s0 :: s1 :: s2 :: s3 :: s4 :: s5 :: s6 :: s7 :: .val v :: L) S H cells slots) : Go C pc (s0 :: s1 :: s2 :: s3 :: s4 :: s5 :: s6 :: s7 :: o :: L) (v :: S) H cells slots := go_astore hd rfl ho hv h
theorem go_astore_9 {s0 s1 s2 s3 s4 s5 s6 s7 s8 o : Slot} {v : Value} (hd : Dc bytes pc (.astore 9) 2 nx) (ho : oneS o = true) (hv : v.isRef = true) (h : Go C nx (s0 :: s1 :: s2 :: s3 :: s4 :: s5 :: s6 :: s7 :: s8 :: .val v :: L) S H cells slots) : Go C pc (s0 :: s1 :: s2 :: s3 :: s4 :: s5 :: s6 :: s7 :: s8 :: o :: L) (v :: S) H cells slots := go_astore hd rfl ho hv h
theorem go_static_2 {a1 a2 : Value} {y' : MethodName} {bytes' : ByteArray} {maxL : Nat} {ret' : Option FieldType} {rm : Room} {idx : Nat} {P : Value → List GCell → Prop} {ps : List FieldType} {rt : Option FieldType} (hd : Dc bytes pc (.invokestatic idx) 3 nx) (w1 : Jvm.Cond.methodLink y.cls idx y' ∈ W) (w2 : Jvm.Cond.static y' ∈ W) (w5 : Jvm.Cond.code y' bytes' maxL ret' ∈ W) (w6 : Jvm.Cond.initialized y'.cls ∈ W) (hy : y'.cls ≠ "java/lang/invoke/MethodHandle" ∧ y'.cls ≠ "java/lang/invoke/VarHandle") (hdesc : parseMethodDescriptor y'.desc = some ⟨ps, rt⟩) (hlen : ps.length = 2)
    (M : Met l Z a0 b y' bytes' maxL ret' rm [a1, a2] H (fun v H' => ∃ w, v = some w ∧ P w H')) (hL : L.length = nL) (wdt : Nat) (hwd : (S.map Value.category).sum = wdt) (hfr : rm.frames + 1 ≤ R.frames) (hlo : wdt + (maxL + 11) + rm.locals ≤ R.locals) (hc : cells + rm.cells ≤ R.cells) (hs : slots + rm.slots ≤ R.slots)
    (h : ∀ w H', P w H' → Go C nx L (w :: S) H' (cells + rm.cells) (slots + rm.slots)) : Go C pc L (a2 :: a1 :: S) H cells slots :=
  go_static hd w1 w2 w5 w6 hy hdesc (as := [a1, a2]) (by rw [hlen]; rfl) M rfl hL wdt (Nat.le_of_eq hwd) hfr hlo hc hs (fun v H' q => by obtain ⟨w, rfl, q⟩ := q; exact h w H' q)
theorem go_staticV_4 {a1 a2 a3 a4 : Value} {y' : MethodName} {bytes' : ByteArray} {maxL : Nat} {ret' : Option FieldType} {rm : Room} {idx : Nat} {P : List GCell → Prop} {ps : List FieldType} {rt : Option FieldType} (hd : Dc bytes pc (.invokestatic idx) 3 nx) (w1 : Jvm.Cond.methodLink y.cls idx y' ∈ W) (w2 : Jvm.Cond.static y' ∈ W) (w5 : Jvm.Cond.code y' bytes' maxL ret' ∈ W) (w6 : Jvm.Cond.initialized y'.cls ∈ W) (hy : y'.cls ≠ "java/lang/invoke/MethodHandle" ∧ y'.cls ≠ "java/lang/invoke/VarHandle") (hdesc : parseMethodDescriptor y'.desc = some ⟨ps, rt⟩) (hlen : ps.length = 4)
    (M : Met l Z a0 b y' bytes' maxL ret' rm [a1, a2, a3, a4] H (fun v H' => v = none ∧ P H')) (hL : L.length = nL) (wdt : Nat) (hwd : (S.map Value.category).sum = wdt) (hfr : rm.frames + 1 ≤ R.frames) (hlo : wdt + (maxL + 11) + rm.locals ≤ R.locals) (hc : cells + rm.cells ≤ R.cells) (hs : slots + rm.slots ≤ R.slots)
    (h : ∀ H', P H' → Go C nx L S H' (cells + rm.cells) (slots + rm.slots)) : Go C pc L (a4 :: a3 :: a2 :: a1 :: S) H cells slots :=
  go_static hd w1 w2 w5 w6 hy hdesc (as := [a1, a2, a3, a4]) (by rw [hlen]; rfl) M rfl hL wdt (Nat.le_of_eq hwd) hfr hlo hc hs (fun v H' q => by obtain ⟨rfl, q⟩ := q; exact h H' q)
theorem go_static_5 {a1 a2 a3 a4 a5 : Value} {y' : MethodName} {bytes' : ByteArray} {maxL : Nat} {ret' : Option FieldType} {rm : Room} {idx : Nat} {P : Value → List GCell → Prop} {ps : List FieldType} {rt : Option FieldType} (hd : Dc bytes pc (.invokestatic idx) 3 nx) (w1 : Jvm.Cond.methodLink y.cls idx y' ∈ W) (w2 : Jvm.Cond.static y' ∈ W) (w5 : Jvm.Cond.code y' bytes' maxL ret' ∈ W) (w6 : Jvm.Cond.initialized y'.cls ∈ W) (hy : y'.cls ≠ "java/lang/invoke/MethodHandle" ∧ y'.cls ≠ "java/lang/invoke/VarHandle") (hdesc : parseMethodDescriptor y'.desc = some ⟨ps, rt⟩) (hlen : ps.length = 5)
    (M : Met l Z a0 b y' bytes' maxL ret' rm [a1, a2, a3, a4, a5] H (fun v H' => ∃ w, v = some w ∧ P w H')) (hL : L.length = nL) (wdt : Nat) (hwd : (S.map Value.category).sum = wdt) (hfr : rm.frames + 1 ≤ R.frames) (hlo : wdt + (maxL + 11) + rm.locals ≤ R.locals) (hc : cells + rm.cells ≤ R.cells) (hs : slots + rm.slots ≤ R.slots)
    (h : ∀ w H', P w H' → Go C nx L (w :: S) H' (cells + rm.cells) (slots + rm.slots)) : Go C pc L (a5 :: a4 :: a3 :: a2 :: a1 :: S) H cells slots :=
  go_static hd w1 w2 w5 w6 hy hdesc (as := [a1, a2, a3, a4, a5]) (by rw [hlen]; rfl) M rfl hL wdt (Nat.le_of_eq hwd) hfr hlo hc hs (fun v H' q => by obtain ⟨w, rfl, q⟩ := q; exact h w H' q)
end Places
end Jvm.GoKit

namespace Jvm.Pilot.@@N@@
open Jvm Jvm.ClassFile Sem Op Lib Jvm.Free Jvm.Stand Jvm.LawKit Jvm.RoadKit Bundle Jvm.GoKit Jvm.Pilot.@@N@@.Jvm.D
theorem e0_0 : Dc code 0 (.iload_n 0) 1 1 := ⟨at_0, rfl⟩
theorem e0_1 : Dc code 1 (.ldc 7) 2 3 := ⟨at_1, rfl⟩
theorem e0_3 : Dc code 3 (.iand) 1 4 := ⟨at_3, rfl⟩
theorem e0_4 : Dc code 4 (.bipush 6) 2 6 := ⟨at_4, rfl⟩
theorem e0_6 : Dc code 6 (.irem) 1 7 := ⟨at_6, rfl⟩
theorem e0_7 : Dc code 7 (.istore 4) 2 9 := ⟨at_7, rfl⟩
theorem e0_9 : Dc code 9 (.iload_n 1) 1 10 := ⟨at_9, rfl⟩
theorem e0_10 : Dc code 10 (.ldc 7) 2 12 := ⟨at_10, rfl⟩
theorem e0_12 : Dc code 12 (.iand) 1 13 := ⟨at_12, rfl⟩
theorem e0_13 : Dc code 13 (.bipush 6) 2 15 := ⟨at_13, rfl⟩
theorem e0_15 : Dc code 15 (.irem) 1 16 := ⟨at_15, rfl⟩
theorem e0_16 : Dc code 16 (.istore 5) 2 18 := ⟨at_16, rfl⟩
theorem e0_18 : Dc code 18 (.iload 4) 2 20 := ⟨at_18, rfl⟩
theorem e0_20 : Dc code 20 (.iload 5) 2 22 := ⟨at_20, rfl⟩
theorem e0_22 : Dc code 22 (.invokestatic 8) 3 25 := ⟨at_22, rfl⟩
theorem e0_25 : Dc code 25 (.istore 6) 2 27 := ⟨at_25, rfl⟩
theorem e0_27 : Dc code 27 (.iload 4) 2 29 := ⟨at_27, rfl⟩
theorem e0_29 : Dc code 29 (.iload 5) 2 31 := ⟨at_29, rfl⟩
theorem e0_31 : Dc code 31 (.invokestatic 14) 3 34 := ⟨at_31, rfl⟩
theorem e0_34 : Dc code 34 (.istore 7) 2 36 := ⟨at_34, rfl⟩
theorem e0_36 : Dc code 36 (.bipush 6) 2 38 := ⟨at_36, rfl⟩
theorem e0_38 : Dc code 38 (.newarray .int) 2 40 := ⟨at_38, rfl⟩
theorem e0_40 : Dc code 40 (.dup) 1 41 := ⟨at_40, rfl⟩
theorem e0_41 : Dc code 41 (.iconst 0) 1 42 := ⟨at_41, rfl⟩
theorem e0_42 : Dc code 42 (.iload_n 2) 1 43 := ⟨at_42, rfl⟩
theorem e0_43 : Dc code 43 (.iastore) 1 44 := ⟨at_43, rfl⟩
theorem e0_44 : Dc code 44 (.dup) 1 45 := ⟨at_44, rfl⟩
theorem e0_45 : Dc code 45 (.iconst 1) 1 46 := ⟨at_45, rfl⟩
theorem e0_46 : Dc code 46 (.iload_n 2) 1 47 := ⟨at_46, rfl⟩
theorem e0_47 : Dc code 47 (.iconst 1) 1 48 := ⟨at_47, rfl⟩
theorem e0_48 : Dc code 48 (.iadd) 1 49 := ⟨at_48, rfl⟩
theorem e0_49 : Dc code 49 (.iastore) 1 50 := ⟨at_49, rfl⟩
theorem e0_50 : Dc code 50 (.dup) 1 51 := ⟨at_50, rfl⟩
theorem e0_51 : Dc code 51 (.iconst 2) 1 52 := ⟨at_51, rfl⟩
theorem e0_52 : Dc code 52 (.iload_n 2) 1 53 := ⟨at_52, rfl⟩
theorem e0_53 : Dc code 53 (.iconst 2) 1 54 := ⟨at_53, rfl⟩
theorem e0_54 : Dc code 54 (.iadd) 1 55 := ⟨at_54, rfl⟩
theorem e0_55 : Dc code 55 (.iastore) 1 56 := ⟨at_55, rfl⟩
theorem e0_56 : Dc code 56 (.dup) 1 57 := ⟨at_56, rfl⟩
theorem e0_57 : Dc code 57 (.iconst 3) 1 58 := ⟨at_57, rfl⟩
theorem e0_58 : Dc code 58 (.iload_n 2) 1 59 := ⟨at_58, rfl⟩
theorem e0_59 : Dc code 59 (.iconst 3) 1 60 := ⟨at_59, rfl⟩
theorem e0_60 : Dc code 60 (.iadd) 1 61 := ⟨at_60, rfl⟩
theorem e0_61 : Dc code 61 (.iastore) 1 62 := ⟨at_61, rfl⟩
theorem e0_62 : Dc code 62 (.dup) 1 63 := ⟨at_62, rfl⟩
theorem e0_63 : Dc code 63 (.iconst 4) 1 64 := ⟨at_63, rfl⟩
theorem e0_64 : Dc code 64 (.iload_n 2) 1 65 := ⟨at_64, rfl⟩
theorem e0_65 : Dc code 65 (.iconst 4) 1 66 := ⟨at_65, rfl⟩
theorem e0_66 : Dc code 66 (.iadd) 1 67 := ⟨at_66, rfl⟩
theorem e0_67 : Dc code 67 (.iastore) 1 68 := ⟨at_67, rfl⟩
theorem e0_68 : Dc code 68 (.dup) 1 69 := ⟨at_68, rfl⟩
theorem e0_69 : Dc code 69 (.iconst 5) 1 70 := ⟨at_69, rfl⟩
theorem e0_70 : Dc code 70 (.iload_n 2) 1 71 := ⟨at_70, rfl⟩
theorem e0_71 : Dc code 71 (.iconst 5) 1 72 := ⟨at_71, rfl⟩
theorem e0_72 : Dc code 72 (.iadd) 1 73 := ⟨at_72, rfl⟩
theorem e0_73 : Dc code 73 (.iastore) 1 74 := ⟨at_73, rfl⟩
theorem e0_74 : Dc code 74 (.astore 8) 2 76 := ⟨at_74, rfl⟩
theorem e0_76 : Dc code 76 (.bipush 6) 2 78 := ⟨at_76, rfl⟩
theorem e0_78 : Dc code 78 (.newarray .int) 2 80 := ⟨at_78, rfl⟩
theorem e0_80 : Dc code 80 (.dup) 1 81 := ⟨at_80, rfl⟩
theorem e0_81 : Dc code 81 (.iconst 0) 1 82 := ⟨at_81, rfl⟩
theorem e0_82 : Dc code 82 (.iload_n 3) 1 83 := ⟨at_82, rfl⟩
theorem e0_83 : Dc code 83 (.iastore) 1 84 := ⟨at_83, rfl⟩
theorem e0_84 : Dc code 84 (.dup) 1 85 := ⟨at_84, rfl⟩
theorem e0_85 : Dc code 85 (.iconst 1) 1 86 := ⟨at_85, rfl⟩
theorem e0_86 : Dc code 86 (.iload_n 3) 1 87 := ⟨at_86, rfl⟩
theorem e0_87 : Dc code 87 (.iconst 1) 1 88 := ⟨at_87, rfl⟩
theorem e0_88 : Dc code 88 (.iadd) 1 89 := ⟨at_88, rfl⟩
theorem e0_89 : Dc code 89 (.iastore) 1 90 := ⟨at_89, rfl⟩
theorem e0_90 : Dc code 90 (.dup) 1 91 := ⟨at_90, rfl⟩
theorem e0_91 : Dc code 91 (.iconst 2) 1 92 := ⟨at_91, rfl⟩
theorem e0_92 : Dc code 92 (.iload_n 3) 1 93 := ⟨at_92, rfl⟩
theorem e0_93 : Dc code 93 (.iconst 2) 1 94 := ⟨at_93, rfl⟩
theorem e0_94 : Dc code 94 (.iadd) 1 95 := ⟨at_94, rfl⟩
theorem e0_95 : Dc code 95 (.iastore) 1 96 := ⟨at_95, rfl⟩
theorem e0_96 : Dc code 96 (.dup) 1 97 := ⟨at_96, rfl⟩
theorem e0_97 : Dc code 97 (.iconst 3) 1 98 := ⟨at_97, rfl⟩
theorem e0_98 : Dc code 98 (.iload_n 3) 1 99 := ⟨at_98, rfl⟩
theorem e0_99 : Dc code 99 (.iconst 3) 1 100 := ⟨at_99, rfl⟩
theorem e0_100 : Dc code 100 (.iadd) 1 101 := ⟨at_100, rfl⟩
theorem e0_101 : Dc code 101 (.iastore) 1 102 := ⟨at_101, rfl⟩
theorem e0_102 : Dc code 102 (.dup) 1 103 := ⟨at_102, rfl⟩
theorem e0_103 : Dc code 103 (.iconst 4) 1 104 := ⟨at_103, rfl⟩
theorem e0_104 : Dc code 104 (.iload_n 3) 1 105 := ⟨at_104, rfl⟩
theorem e0_105 : Dc code 105 (.iconst 4) 1 106 := ⟨at_105, rfl⟩
theorem e0_106 : Dc code 106 (.iadd) 1 107 := ⟨at_106, rfl⟩
theorem e0_107 : Dc code 107 (.iastore) 1 108 := ⟨at_107, rfl⟩
theorem e0_108 : Dc code 108 (.dup) 1 109 := ⟨at_108, rfl⟩
theorem e0_109 : Dc code 109 (.iconst 5) 1 110 := ⟨at_109, rfl⟩
theorem e0_110 : Dc code 110 (.iload_n 3) 1 111 := ⟨at_110, rfl⟩
theorem e0_111 : Dc code 111 (.iconst 5) 1 112 := ⟨at_111, rfl⟩
theorem e0_112 : Dc code 112 (.iadd) 1 113 := ⟨at_112, rfl⟩
theorem e0_113 : Dc code 113 (.iastore) 1 114 := ⟨at_113, rfl⟩
theorem e0_114 : Dc code 114 (.astore 9) 2 116 := ⟨at_114, rfl⟩
theorem e0_116 : Dc code 116 (.aload 8) 2 118 := ⟨at_116, rfl⟩
theorem e0_118 : Dc code 118 (.aload 9) 2 120 := ⟨at_118, rfl⟩
theorem e0_120 : Dc code 120 (.iload 6) 2 122 := ⟨at_120, rfl⟩
theorem e0_122 : Dc code 122 (.iload 7) 2 124 := ⟨at_122, rfl⟩
theorem e0_124 : Dc code 124 (.invokestatic 17) 3 127 := ⟨at_124, rfl⟩
theorem e0_127 : Dc code 127 (.aload 8) 2 129 := ⟨at_127, rfl⟩
theorem e0_129 : Dc code 129 (.iconst 0) 1 130 := ⟨at_129, rfl⟩
theorem e0_130 : Dc code 130 (.iload 6) 2 132 := ⟨at_130, rfl⟩
theorem e0_132 : Dc code 132 (.iload 7) 2 134 := ⟨at_132, rfl⟩
theorem e0_134 : Dc code 134 (.iload_n 2) 1 135 := ⟨at_134, rfl⟩
theorem e0_135 : Dc code 135 (.invokestatic 23) 3 138 := ⟨at_135, rfl⟩
theorem e0_138 : Dc code 138 (.ifCond .eq 161) 3 141 := ⟨at_138, rfl⟩
theorem e0_141 : Dc code 141 (.aload 8) 2 143 := ⟨at_141, rfl⟩
theorem e0_143 : Dc code 143 (.iconst 1) 1 144 := ⟨at_143, rfl⟩
theorem e0_144 : Dc code 144 (.iload 6) 2 146 := ⟨at_144, rfl⟩
theorem e0_146 : Dc code 146 (.iload 7) 2 148 := ⟨at_146, rfl⟩
theorem e0_148 : Dc code 148 (.iload_n 2) 1 149 := ⟨at_148, rfl⟩
theorem e0_149 : Dc code 149 (.invokestatic 23) 3 152 := ⟨at_149, rfl⟩
theorem e0_152 : Dc code 152 (.ifCond .eq 147) 3 155 := ⟨at_152, rfl⟩
theorem e0_155 : Dc code 155 (.aload 8) 2 157 := ⟨at_155, rfl⟩
theorem e0_157 : Dc code 157 (.iconst 2) 1 158 := ⟨at_157, rfl⟩
theorem e0_158 : Dc code 158 (.iload 6) 2 160 := ⟨at_158, rfl⟩
theorem e0_160 : Dc code 160 (.iload 7) 2 162 := ⟨at_160, rfl⟩
theorem e0_162 : Dc code 162 (.iload_n 2) 1 163 := ⟨at_162, rfl⟩
theorem e0_163 : Dc code 163 (.invokestatic 23) 3 166 := ⟨at_163, rfl⟩
theorem e0_166 : Dc code 166 (.ifCond .eq 133) 3 169 := ⟨at_166, rfl⟩
theorem e0_169 : Dc code 169 (.aload 8) 2 171 := ⟨at_169, rfl⟩
theorem e0_171 : Dc code 171 (.iconst 3) 1 172 := ⟨at_171, rfl⟩
theorem e0_172 : Dc code 172 (.iload 6) 2 174 := ⟨at_172, rfl⟩
theorem e0_174 : Dc code 174 (.iload 7) 2 176 := ⟨at_174, rfl⟩
theorem e0_176 : Dc code 176 (.iload_n 2) 1 177 := ⟨at_176, rfl⟩
theorem e0_177 : Dc code 177 (.invokestatic 23) 3 180 := ⟨at_177, rfl⟩
theorem e0_180 : Dc code 180 (.ifCond .eq 119) 3 183 := ⟨at_180, rfl⟩
theorem e0_183 : Dc code 183 (.aload 8) 2 185 := ⟨at_183, rfl⟩
theorem e0_185 : Dc code 185 (.iconst 4) 1 186 := ⟨at_185, rfl⟩
theorem e0_186 : Dc code 186 (.iload 6) 2 188 := ⟨at_186, rfl⟩
theorem e0_188 : Dc code 188 (.iload 7) 2 190 := ⟨at_188, rfl⟩
theorem e0_190 : Dc code 190 (.iload_n 2) 1 191 := ⟨at_190, rfl⟩
theorem e0_191 : Dc code 191 (.invokestatic 23) 3 194 := ⟨at_191, rfl⟩
theorem e0_194 : Dc code 194 (.ifCond .eq 105) 3 197 := ⟨at_194, rfl⟩
theorem e0_197 : Dc code 197 (.aload 8) 2 199 := ⟨at_197, rfl⟩
theorem e0_199 : Dc code 199 (.iconst 5) 1 200 := ⟨at_199, rfl⟩
theorem e0_200 : Dc code 200 (.iload 6) 2 202 := ⟨at_200, rfl⟩
theorem e0_202 : Dc code 202 (.iload 7) 2 204 := ⟨at_202, rfl⟩
theorem e0_204 : Dc code 204 (.iload_n 2) 1 205 := ⟨at_204, rfl⟩
theorem e0_205 : Dc code 205 (.invokestatic 23) 3 208 := ⟨at_205, rfl⟩
theorem e0_208 : Dc code 208 (.ifCond .eq 91) 3 211 := ⟨at_208, rfl⟩
theorem e0_211 : Dc code 211 (.aload 9) 2 213 := ⟨at_211, rfl⟩
theorem e0_213 : Dc code 213 (.iconst 0) 1 214 := ⟨at_213, rfl⟩
theorem e0_214 : Dc code 214 (.iload 6) 2 216 := ⟨at_214, rfl⟩
theorem e0_216 : Dc code 216 (.iload 7) 2 218 := ⟨at_216, rfl⟩
theorem e0_218 : Dc code 218 (.iload_n 3) 1 219 := ⟨at_218, rfl⟩
theorem e0_219 : Dc code 219 (.invokestatic 29) 3 222 := ⟨at_219, rfl⟩
theorem e0_222 : Dc code 222 (.ifCond .eq 77) 3 225 := ⟨at_222, rfl⟩
theorem e0_225 : Dc code 225 (.aload 9) 2 227 := ⟨at_225, rfl⟩
theorem e0_227 : Dc code 227 (.iconst 1) 1 228 := ⟨at_227, rfl⟩
theorem e0_228 : Dc code 228 (.iload 6) 2 230 := ⟨at_228, rfl⟩
theorem e0_230 : Dc code 230 (.iload 7) 2 232 := ⟨at_230, rfl⟩
theorem e0_232 : Dc code 232 (.iload_n 3) 1 233 := ⟨at_232, rfl⟩
theorem e0_233 : Dc code 233 (.invokestatic 29) 3 236 := ⟨at_233, rfl⟩
theorem e0_236 : Dc code 236 (.ifCond .eq 63) 3 239 := ⟨at_236, rfl⟩
theorem e0_239 : Dc code 239 (.aload 9) 2 241 := ⟨at_239, rfl⟩
theorem e0_241 : Dc code 241 (.iconst 2) 1 242 := ⟨at_241, rfl⟩
theorem e0_242 : Dc code 242 (.iload 6) 2 244 := ⟨at_242, rfl⟩
theorem e0_244 : Dc code 244 (.iload 7) 2 246 := ⟨at_244, rfl⟩
theorem e0_246 : Dc code 246 (.iload_n 3) 1 247 := ⟨at_246, rfl⟩
theorem e0_247 : Dc code 247 (.invokestatic 29) 3 250 := ⟨at_247, rfl⟩
theorem e0_250 : Dc code 250 (.ifCond .eq 49) 3 253 := ⟨at_250, rfl⟩
theorem e0_253 : Dc code 253 (.aload 9) 2 255 := ⟨at_253, rfl⟩
theorem e0_255 : Dc code 255 (.iconst 3) 1 256 := ⟨at_255, rfl⟩
theorem e0_256 : Dc code 256 (.iload 6) 2 258 := ⟨at_256, rfl⟩
theorem e0_258 : Dc code 258 (.iload 7) 2 260 := ⟨at_258, rfl⟩
theorem e0_260 : Dc code 260 (.iload_n 3) 1 261 := ⟨at_260, rfl⟩
theorem e0_261 : Dc code 261 (.invokestatic 29) 3 264 := ⟨at_261, rfl⟩
theorem e0_264 : Dc code 264 (.ifCond .eq 35) 3 267 := ⟨at_264, rfl⟩
theorem e0_267 : Dc code 267 (.aload 9) 2 269 := ⟨at_267, rfl⟩
theorem e0_269 : Dc code 269 (.iconst 4) 1 270 := ⟨at_269, rfl⟩
theorem e0_270 : Dc code 270 (.iload 6) 2 272 := ⟨at_270, rfl⟩
theorem e0_272 : Dc code 272 (.iload 7) 2 274 := ⟨at_272, rfl⟩
theorem e0_274 : Dc code 274 (.iload_n 3) 1 275 := ⟨at_274, rfl⟩
theorem e0_275 : Dc code 275 (.invokestatic 29) 3 278 := ⟨at_275, rfl⟩
theorem e0_278 : Dc code 278 (.ifCond .eq 21) 3 281 := ⟨at_278, rfl⟩
theorem e0_281 : Dc code 281 (.aload 9) 2 283 := ⟨at_281, rfl⟩
theorem e0_283 : Dc code 283 (.iconst 5) 1 284 := ⟨at_283, rfl⟩
theorem e0_284 : Dc code 284 (.iload 6) 2 286 := ⟨at_284, rfl⟩
theorem e0_286 : Dc code 286 (.iload 7) 2 288 := ⟨at_286, rfl⟩
theorem e0_288 : Dc code 288 (.iload_n 3) 1 289 := ⟨at_288, rfl⟩
theorem e0_289 : Dc code 289 (.invokestatic 29) 3 292 := ⟨at_289, rfl⟩
theorem e0_292 : Dc code 292 (.ifCond .eq 7) 3 295 := ⟨at_292, rfl⟩
theorem e0_295 : Dc code 295 (.iconst 1) 1 296 := ⟨at_295, rfl⟩
theorem e0_296 : Dc code 296 (.goto 4) 3 299 := ⟨at_296, rfl⟩
theorem e0_300 : Dc code 300 (.ireturn) 1 301 := ⟨at_300, rfl⟩
theorem e1_0 : Dc jdk_29_method_69_code 0 (.iload_n 0) 1 1 := ⟨by decide +kernel, rfl⟩
theorem e1_1 : Dc jdk_29_method_69_code 1 (.iload_n 1) 1 2 := ⟨by decide +kernel, rfl⟩
theorem e1_2 : Dc jdk_29_method_69_code 2 (.if_icmp .gt 7) 3 5 := ⟨by decide +kernel, rfl⟩
theorem e1_5 : Dc jdk_29_method_69_code 5 (.iload_n 0) 1 6 := ⟨by decide +kernel, rfl⟩
theorem e1_6 : Dc jdk_29_method_69_code 6 (.goto 4) 3 9 := ⟨by decide +kernel, rfl⟩
theorem e1_9 : Dc jdk_29_method_69_code 9 (.iload_n 1) 1 10 := ⟨by decide +kernel, rfl⟩
theorem e1_10 : Dc jdk_29_method_69_code 10 (.ireturn) 1 11 := ⟨by decide +kernel, rfl⟩
theorem e2_0 : Dc jdk_29_method_65_code 0 (.iload_n 0) 1 1 := ⟨by decide +kernel, rfl⟩
theorem e2_1 : Dc jdk_29_method_65_code 1 (.iload_n 1) 1 2 := ⟨by decide +kernel, rfl⟩
theorem e2_2 : Dc jdk_29_method_65_code 2 (.if_icmp .lt 7) 3 5 := ⟨by decide +kernel, rfl⟩
theorem e2_5 : Dc jdk_29_method_65_code 5 (.iload_n 0) 1 6 := ⟨by decide +kernel, rfl⟩
theorem e2_6 : Dc jdk_29_method_65_code 6 (.goto 4) 3 9 := ⟨by decide +kernel, rfl⟩
theorem e2_9 : Dc jdk_29_method_65_code 9 (.iload_n 1) 1 10 := ⟨by decide +kernel, rfl⟩
theorem e2_10 : Dc jdk_29_method_65_code 10 (.ireturn) 1 11 := ⟨by decide +kernel, rfl⟩
theorem e3_0 : Dc prog_8_method_3_code 0 (.iload_n 2) 1 1 := ⟨by decide +kernel, rfl⟩
theorem e3_1 : Dc prog_8_method_3_code 1 (.istore 4) 2 3 := ⟨by decide +kernel, rfl⟩
theorem e3_3 : Dc prog_8_method_3_code 3 (.iload_n 3) 1 4 := ⟨by decide +kernel, rfl⟩
theorem e3_4 : Dc prog_8_method_3_code 4 (.istore 5) 2 6 := ⟨by decide +kernel, rfl⟩
theorem e3_6 : Dc prog_8_method_3_code 6 (.iload 4) 2 8 := ⟨by decide +kernel, rfl⟩
theorem e3_8 : Dc prog_8_method_3_code 8 (.iload 5) 2 10 := ⟨by decide +kernel, rfl⟩
theorem e3_10 : Dc prog_8_method_3_code 10 (.if_icmp .ge 32) 3 13 := ⟨by decide +kernel, rfl⟩
theorem e3_13 : Dc prog_8_method_3_code 13 (.aload_n 0) 1 14 := ⟨by decide +kernel, rfl⟩
theorem e3_14 : Dc prog_8_method_3_code 14 (.iload 4) 2 16 := ⟨by decide +kernel, rfl⟩
theorem e3_16 : Dc prog_8_method_3_code 16 (.iaload) 1 17 := ⟨by decide +kernel, rfl⟩
theorem e3_17 : Dc prog_8_method_3_code 17 (.istore 6) 2 19 := ⟨by decide +kernel, rfl⟩
theorem e3_19 : Dc prog_8_method_3_code 19 (.aload_n 0) 1 20 := ⟨by decide +kernel, rfl⟩
theorem e3_20 : Dc prog_8_method_3_code 20 (.iload 4) 2 22 := ⟨by decide +kernel, rfl⟩
theorem e3_22 : Dc prog_8_method_3_code 22 (.aload_n 0) 1 23 := ⟨by decide +kernel, rfl⟩
theorem e3_23 : Dc prog_8_method_3_code 23 (.iload 5) 2 25 := ⟨by decide +kernel, rfl⟩
theorem e3_25 : Dc prog_8_method_3_code 25 (.iaload) 1 26 := ⟨by decide +kernel, rfl⟩
theorem e3_26 : Dc prog_8_method_3_code 26 (.iastore) 1 27 := ⟨by decide +kernel, rfl⟩
theorem e3_27 : Dc prog_8_method_3_code 27 (.aload_n 0) 1 28 := ⟨by decide +kernel, rfl⟩
theorem e3_28 : Dc prog_8_method_3_code 28 (.iload 5) 2 30 := ⟨by decide +kernel, rfl⟩
theorem e3_30 : Dc prog_8_method_3_code 30 (.iload 6) 2 32 := ⟨by decide +kernel, rfl⟩
theorem e3_32 : Dc prog_8_method_3_code 32 (.iastore) 1 33 := ⟨by decide +kernel, rfl⟩
theorem e3_33 : Dc prog_8_method_3_code 33 (.iinc 4 1) 3 36 := ⟨by decide +kernel, rfl⟩
theorem e3_36 : Dc prog_8_method_3_code 36 (.iinc 5 (-1)) 3 39 := ⟨by decide +kernel, rfl⟩
theorem e3_39 : Dc prog_8_method_3_code 39 (.goto (-33)) 3 42 := ⟨by decide +kernel, rfl⟩
theorem e3_42 : Dc prog_8_method_3_code 42 (.iload_n 2) 1 43 := ⟨by decide +kernel, rfl⟩
theorem e3_43 : Dc prog_8_method_3_code 43 (.istore 4) 2 45 := ⟨by decide +kernel, rfl⟩
theorem e3_45 : Dc prog_8_method_3_code 45 (.iload_n 3) 1 46 := ⟨by decide +kernel, rfl⟩
theorem e3_46 : Dc prog_8_method_3_code 46 (.iconst 1) 1 47 := ⟨by decide +kernel, rfl⟩
theorem e3_47 : Dc prog_8_method_3_code 47 (.isub) 1 48 := ⟨by decide +kernel, rfl⟩
theorem e3_48 : Dc prog_8_method_3_code 48 (.istore 5) 2 50 := ⟨by decide +kernel, rfl⟩
theorem e3_50 : Dc prog_8_method_3_code 50 (.iload 4) 2 52 := ⟨by decide +kernel, rfl⟩
theorem e3_52 : Dc prog_8_method_3_code 52 (.iload 5) 2 54 := ⟨by decide +kernel, rfl⟩
theorem e3_54 : Dc prog_8_method_3_code 54 (.if_icmp .ge 32) 3 57 := ⟨by decide +kernel, rfl⟩
theorem e3_57 : Dc prog_8_method_3_code 57 (.aload_n 1) 1 58 := ⟨by decide +kernel, rfl⟩
theorem e3_58 : Dc prog_8_method_3_code 58 (.iload 4) 2 60 := ⟨by decide +kernel, rfl⟩
theorem e3_60 : Dc prog_8_method_3_code 60 (.iaload) 1 61 := ⟨by decide +kernel, rfl⟩
theorem e3_61 : Dc prog_8_method_3_code 61 (.istore 6) 2 63 := ⟨by decide +kernel, rfl⟩
theorem e3_63 : Dc prog_8_method_3_code 63 (.aload_n 1) 1 64 := ⟨by decide +kernel, rfl⟩
theorem e3_64 : Dc prog_8_method_3_code 64 (.iload 4) 2 66 := ⟨by decide +kernel, rfl⟩
theorem e3_66 : Dc prog_8_method_3_code 66 (.aload_n 1) 1 67 := ⟨by decide +kernel, rfl⟩
theorem e3_67 : Dc prog_8_method_3_code 67 (.iload 5) 2 69 := ⟨by decide +kernel, rfl⟩
theorem e3_69 : Dc prog_8_method_3_code 69 (.iaload) 1 70 := ⟨by decide +kernel, rfl⟩
theorem e3_70 : Dc prog_8_method_3_code 70 (.iastore) 1 71 := ⟨by decide +kernel, rfl⟩
theorem e3_71 : Dc prog_8_method_3_code 71 (.aload_n 1) 1 72 := ⟨by decide +kernel, rfl⟩
theorem e3_72 : Dc prog_8_method_3_code 72 (.iload 5) 2 74 := ⟨by decide +kernel, rfl⟩
theorem e3_74 : Dc prog_8_method_3_code 74 (.iload 6) 2 76 := ⟨by decide +kernel, rfl⟩
theorem e3_76 : Dc prog_8_method_3_code 76 (.iastore) 1 77 := ⟨by decide +kernel, rfl⟩
theorem e3_77 : Dc prog_8_method_3_code 77 (.iinc 4 1) 3 80 := ⟨by decide +kernel, rfl⟩
theorem e3_80 : Dc prog_8_method_3_code 80 (.iinc 5 (-1)) 3 83 := ⟨by decide +kernel, rfl⟩
theorem e3_83 : Dc prog_8_method_3_code 83 (.goto (-33)) 3 86 := ⟨by decide +kernel, rfl⟩
theorem e3_86 : Dc prog_8_method_3_code 86 (.return_) 1 87 := ⟨by decide +kernel, rfl⟩
theorem e4_0 : Dc method_3_code 0 (.iload_n 2) 1 1 := ⟨by decide +kernel, rfl⟩
theorem e4_1 : Dc method_3_code 1 (.iload_n 1) 1 2 := ⟨by decide +kernel, rfl⟩
theorem e4_2 : Dc method_3_code 2 (.if_icmp .gt 16) 3 5 := ⟨by decide +kernel, rfl⟩
theorem e4_5 : Dc method_3_code 5 (.iload_n 1) 1 6 := ⟨by decide +kernel, rfl⟩
theorem e4_6 : Dc method_3_code 6 (.iload_n 3) 1 7 := ⟨by decide +kernel, rfl⟩
theorem e4_7 : Dc method_3_code 7 (.if_icmp .gt 11) 3 10 := ⟨by decide +kernel, rfl⟩
theorem e4_10 : Dc method_3_code 10 (.iload_n 2) 1 11 := ⟨by decide +kernel, rfl⟩
theorem e4_11 : Dc method_3_code 11 (.iload_n 3) 1 12 := ⟨by decide +kernel, rfl⟩
theorem e4_12 : Dc method_3_code 12 (.iadd) 1 13 := ⟨by decide +kernel, rfl⟩
theorem e4_13 : Dc method_3_code 13 (.iload_n 1) 1 14 := ⟨by decide +kernel, rfl⟩
theorem e4_14 : Dc method_3_code 14 (.isub) 1 15 := ⟨by decide +kernel, rfl⟩
theorem e4_15 : Dc method_3_code 15 (.goto 4) 3 18 := ⟨by decide +kernel, rfl⟩
theorem e4_18 : Dc method_3_code 18 (.iload_n 1) 1 19 := ⟨by decide +kernel, rfl⟩
theorem e4_19 : Dc method_3_code 19 (.istore 5) 2 21 := ⟨by decide +kernel, rfl⟩
theorem e4_21 : Dc method_3_code 21 (.aload_n 0) 1 22 := ⟨by decide +kernel, rfl⟩
theorem e4_22 : Dc method_3_code 22 (.iload_n 1) 1 23 := ⟨by decide +kernel, rfl⟩
theorem e4_23 : Dc method_3_code 23 (.iaload) 1 24 := ⟨by decide +kernel, rfl⟩
theorem e4_24 : Dc method_3_code 24 (.iload 4) 2 26 := ⟨by decide +kernel, rfl⟩
theorem e4_26 : Dc method_3_code 26 (.iload 5) 2 28 := ⟨by decide +kernel, rfl⟩
theorem e4_28 : Dc method_3_code 28 (.iadd) 1 29 := ⟨by decide +kernel, rfl⟩
theorem e4_29 : Dc method_3_code 29 (.if_icmp .ne 7) 3 32 := ⟨by decide +kernel, rfl⟩
theorem e4_32 : Dc method_3_code 32 (.iconst 1) 1 33 := ⟨by decide +kernel, rfl⟩
theorem e4_33 : Dc method_3_code 33 (.goto 4) 3 36 := ⟨by decide +kernel, rfl⟩
theorem e4_37 : Dc method_3_code 37 (.ireturn) 1 38 := ⟨by decide +kernel, rfl⟩
theorem e5_0 : Dc method_4_code 0 (.iload_n 2) 1 1 := ⟨by decide +kernel, rfl⟩
theorem e5_1 : Dc method_4_code 1 (.iload_n 1) 1 2 := ⟨by decide +kernel, rfl⟩
theorem e5_2 : Dc method_4_code 2 (.if_icmp .gt 18) 3 5 := ⟨by decide +kernel, rfl⟩
theorem e5_5 : Dc method_4_code 5 (.iload_n 1) 1 6 := ⟨by decide +kernel, rfl⟩
theorem e5_6 : Dc method_4_code 6 (.iload_n 3) 1 7 := ⟨by decide +kernel, rfl⟩
theorem e5_7 : Dc method_4_code 7 (.if_icmp .ge 13) 3 10 := ⟨by decide +kernel, rfl⟩
theorem e5_10 : Dc method_4_code 10 (.iload_n 2) 1 11 := ⟨by decide +kernel, rfl⟩
theorem e5_11 : Dc method_4_code 11 (.iload_n 3) 1 12 := ⟨by decide +kernel, rfl⟩
theorem e5_12 : Dc method_4_code 12 (.iadd) 1 13 := ⟨by decide +kernel, rfl⟩
theorem e5_13 : Dc method_4_code 13 (.iconst 1) 1 14 := ⟨by decide +kernel, rfl⟩
theorem e5_14 : Dc method_4_code 14 (.isub) 1 15 := ⟨by decide +kernel, rfl⟩
theorem e5_15 : Dc method_4_code 15 (.iload_n 1) 1 16 := ⟨by decide +kernel, rfl⟩
theorem e5_16 : Dc method_4_code 16 (.isub) 1 17 := ⟨by decide +kernel, rfl⟩
theorem e5_17 : Dc method_4_code 17 (.goto 4) 3 20 := ⟨by decide +kernel, rfl⟩
theorem e5_20 : Dc method_4_code 20 (.iload_n 1) 1 21 := ⟨by decide +kernel, rfl⟩
theorem e5_21 : Dc method_4_code 21 (.istore 5) 2 23 := ⟨by decide +kernel, rfl⟩
theorem e5_23 : Dc method_4_code 23 (.aload_n 0) 1 24 := ⟨by decide +kernel, rfl⟩
theorem e5_24 : Dc method_4_code 24 (.iload_n 1) 1 25 := ⟨by decide +kernel, rfl⟩
theorem e5_25 : Dc method_4_code 25 (.iaload) 1 26 := ⟨by decide +kernel, rfl⟩
theorem e5_26 : Dc method_4_code 26 (.iload 4) 2 28 := ⟨by decide +kernel, rfl⟩
theorem e5_28 : Dc method_4_code 28 (.iload 5) 2 30 := ⟨by decide +kernel, rfl⟩
theorem e5_30 : Dc method_4_code 30 (.iadd) 1 31 := ⟨by decide +kernel, rfl⟩
theorem e5_31 : Dc method_4_code 31 (.if_icmp .ne 7) 3 34 := ⟨by decide +kernel, rfl⟩
theorem e5_34 : Dc method_4_code 34 (.iconst 1) 1 35 := ⟨by decide +kernel, rfl⟩
theorem e5_35 : Dc method_4_code 35 (.goto 4) 3 38 := ⟨by decide +kernel, rfl⟩
theorem e5_39 : Dc method_4_code 39 (.ireturn) 1 40 := ⟨by decide +kernel, rfl⟩
theorem pn_0 : plainFor (⟨"java/lang/Math", "min", "(II)I"⟩ : MethodName) = true := by decide +kernel
theorem pn_1 : plainFor (⟨"java/lang/Math", "max", "(II)I"⟩ : MethodName) = true := by decide +kernel
theorem pn_2 : plainName "com/example/stemcycle/stemcycle/EdgeLengths" = true := by first | (simp [plainName, overriddenIn]; done) | decide +kernel
theorem pn_3 : plainName "com/example/stemcycle/stemcycle/EdgeLengthsReverse209PinLaw" = true := by first | (simp [plainName, overriddenIn]; done) | decide +kernel
theorem hy_4 : "java/lang/Math" ≠ "java/lang/invoke/MethodHandle" ∧ "java/lang/Math" ≠ "java/lang/invoke/VarHandle" := by decide
theorem pd_5 : parseMethodDescriptor "(II)I" = some ⟨[.int, .int], some .int⟩ := by decide +kernel
theorem hy_6 : "com/example/stemcycle/stemcycle/EdgeLengths" ≠ "java/lang/invoke/MethodHandle" ∧ "com/example/stemcycle/stemcycle/EdgeLengths" ≠ "java/lang/invoke/VarHandle" := by decide
theorem pd_7 : parseMethodDescriptor "([I[III)V" = some ⟨[(.array .int), (.array .int), .int, .int], none⟩ := by decide +kernel
theorem hy_8 : "com/example/stemcycle/stemcycle/EdgeLengthsReverse209PinLaw" ≠ "java/lang/invoke/MethodHandle" ∧ "com/example/stemcycle/stemcycle/EdgeLengthsReverse209PinLaw" ≠ "java/lang/invoke/VarHandle" := by decide
theorem pd_9 : parseMethodDescriptor "([IIIII)Z" = some ⟨[(.array .int), .int, .int, .int, .int], some .boolean⟩ := by decide +kernel
def Rv (vs cs : List Value) (f : Nat) (s : Int) (i : Nat) : Prop := cs.length = vs.length ∧ ∀ k : Nat, cs[k]? = if ((k : Int) < i ∨ s - i < k) ∧ f ≤ k ∧ (k : Int) ≤ s - f then vs[(s - k).toNat]? else vs[k]?
def Rs (vs cs : List Value) (f : Nat) (s : Int) : Prop := cs.length = vs.length ∧ ∀ k : Nat, cs[k]? = if f ≤ k ∧ (k : Int) ≤ s - f then vs[(s - k).toNat]? else vs[k]?
theorem own_rv0 (vs : List Value) (f : Nat) (s : Int) : Rv vs vs f s f := ⟨rfl, fun k => by rw [if_neg (by omega)]⟩
theorem own_same {vs cs : List Value} {f i k : Nat} {s : Int} (h : Rv vs cs f s i) (h1 : i ≤ k) (h2 : (k : Int) ≤ s - i) : cs[k]? = vs[k]? := by rw [h.2 k, if_neg (by omega)]
theorem own_swap {vs cs : List Value} {f i : Nat} {s : Int} {x y : Value} (h : Rv vs cs f s i) (hf : f ≤ i) (hij : (i : Int) < s - i) (hs : s - f < (vs.length : Int)) (hx : cs[i]? = some x) (hy : cs[(s - i).toNat]? = some y) : Rv vs ((cs.set i y).set (s - i).toNat x) f s (i + 1) := by
  have ex : vs[i]? = some x := by rw [← own_same h (Nat.le_refl _) (by omega)]; exact hx
  have ey : vs[(s - i).toNat]? = some y := by rw [← own_same h (by omega) (by omega)]; exact hy
  have li : i < cs.length := (List.getElem?_eq_some_iff.mp hx).1
  have lj : (s - i).toNat < cs.length := (List.getElem?_eq_some_iff.mp hy).1
  refine ⟨by simp [h.1], fun k => ?_⟩
  rw [List.getElem?_set]
  by_cases q : (s - i).toNat = k
  · subst q
    rw [if_pos rfl, if_pos (by simpa using lj), if_pos (by omega), show (s - ((s - i).toNat : Int)).toNat = i by omega, ex]
  · rw [if_neg q, List.getElem?_set]
    by_cases r : i = k
    · subst r
      rw [if_pos rfl, if_pos li, if_pos (by omega), ey]
    · rw [if_neg r, h.2 k]
      have e : (((k : Int) < i ∨ s - i < k) ∧ f ≤ k ∧ (k : Int) ≤ s - f) ↔ (((k : Int) < (i + 1 : Nat) ∨ s - (i + 1 : Nat) < k) ∧ f ≤ k ∧ (k : Int) ≤ s - f) := by omega
      simp only [e]
theorem own_skip {vs cs : List Value} {f i : Nat} {s : Int} (h : Rv vs cs f s i) (hij : s - i ≤ (i : Int)) : Rv vs cs f s (i + 1) := by
  refine ⟨h.1, fun k => ?_⟩
  rw [h.2 k]
  by_cases e : (((k : Int) < i ∨ s - i < k) ∧ f ≤ k ∧ (k : Int) ≤ s - f)
  · rw [if_pos e, if_pos (by omega)]
  · rw [if_neg e]
    by_cases d : (((k : Int) < (i + 1 : Nat) ∨ s - (i + 1 : Nat) < k) ∧ f ≤ k ∧ (k : Int) ≤ s - f)
    · rw [if_pos d, show (s - (k : Int)).toNat = k by omega]
    · rw [if_neg d]
theorem own_done {vs cs : List Value} {f i : Nat} {s : Int} (h : Rv vs cs f s i) (hi : s - i ≤ (i : Int)) : Rs vs cs f s := by
  refine ⟨h.1, fun k => ?_⟩
  rw [h.2 k]
  by_cases c : f ≤ k ∧ (k : Int) ≤ s - f
  · rw [if_pos c]
    by_cases d : (k : Int) < i ∨ s - i < k
    · rw [if_pos ⟨d, c⟩]
    · rw [if_neg (fun z => d z.1), show (s - (k : Int)).toNat = k by omega]
  · rw [if_neg c, if_neg (fun z => c z.2)]
theorem own_inc {x : Int32} {m : Int} (h : x.toInt = m) (l : -1000 ≤ m) (u : m ≤ 1000) : (x + 1).toInt = m + 1 := by
  have e := c_iadd x 1
  have k1 : (1 : Int32).toInt = 1 := rfl
  have l1 := Int32.le_toInt (x + 1)
  have l2 := Int32.toInt_lt (x + 1)
  rw [k1] at e
  omega
theorem own_dec {x : Int32} {m : Int} (h : x.toInt = m) (l : -1000 ≤ m) (u : m ≤ 1000) : (x + (-1)).toInt = m - 1 := by
  have e := c_iadd x (-1)
  have k1 : (-1 : Int32).toInt = -1 := rfl
  have l1 := Int32.le_toInt (x + (-1))
  have l2 := Int32.toInt_lt (x + (-1))
  rw [k1] at e
  omega
theorem own_sub {x y : Int32} {m n : Int} (h : x.toInt = m) (h2 : y.toInt = n) (l : -1000 ≤ m - n) (u : m - n ≤ 1000) : (x - y).toInt = m - n := by
  have e := c_isub x y
  have l1 := Int32.le_toInt (x - y)
  have l2 := Int32.toInt_lt (x - y)
  omega
theorem own_add {x y : Int32} {m n : Int} (h : x.toInt = m) (h2 : y.toInt = n) (l : -1000 ≤ m + n) (u : m + n ≤ 1000) : (x + y).toInt = m + n := by
  have e := c_iadd x y
  have l1 := Int32.le_toInt (x + y)
  have l2 := Int32.toInt_lt (x + y)
  omega
theorem own_one : (1 : Int32).toInt = 1 := rfl
theorem own_ofN {x : Int32} {k : Nat} (h : x.toInt = (k : Int)) : x = Int32.ofNat k := by
  apply Int32.toInt_inj.mp
  have := Int32.toInt_lt x
  rw [h, Int32.toInt_ofNat_of_lt (by omega)]
theorem own_some {vs : List Value} {k : Nat} (hi : ∀ v ∈ vs, ∃ x : Int32, v = .int x) (h : k < vs.length) : ∃ x : Int32, vs[k]? = some (.int x) := by
  obtain ⟨x, hx⟩ := hi _ (List.getElem_mem h)
  exact ⟨x, by rw [List.getElem?_eq_getElem h, hx]⟩
theorem own_rvi {vs cs : List Value} {f i k : Nat} {s : Int} (h : Rv vs cs f s i) (hi : ∀ v ∈ vs, ∃ x : Int32, v = .int x) (h1 : i ≤ k) (h2 : (k : Int) ≤ s - i) (h3 : k < vs.length) : ∃ x : Int32, cs[k]? = some (.int x) := by
  rw [own_same h h1 h2]; exact own_some hi h3
abbrev own_six (c : Int32) : List Value := [.int c, .int (c + 1), .int (c + 2), .int (c + 3), .int (c + 4), .int (c + 5)]
theorem own_six_at (c : Int32) {m : Nat} (h : m < 6) : (own_six c)[m]? = some (.int (c + Int32.ofNat m)) := by
  have h1 : m = 0 ∨ m = 1 ∨ m = 2 ∨ m = 3 ∨ m = 4 ∨ m = 5 := by omega
  rcases h1 with rfl | rfl | rfl | rfl | rfl | rfl
  · show some (Value.int c) = some (Value.int (c + 0)); rw [Int32.add_zero]
  all_goals rfl
theorem own_six_i (c : Int32) : ∀ v ∈ own_six c, ∃ x : Int32, v = .int x := by
  intro v hv
  simp only [own_six, List.mem_cons, List.not_mem_nil, or_false] at hv
  rcases hv with rfl | rfl | rfl | rfl | rfl | rfl <;> exact ⟨_, rfl⟩
theorem own_c_at {c : Int32} {cs : List Value} {f t k : Nat} (h : Rs (own_six c) cs f (f + t : Int)) (hk : k < 6) (ht : t < 6) (hft : f ≤ t) : cs[k]? = some (.int (c + Int32.ofNat (if f ≤ k ∧ k ≤ t then f + t - k else k))) := by
  rw [h.2 k]
  by_cases q : f ≤ k ∧ k ≤ t
  · rw [if_pos q, if_pos (by omega), show ((f + t : Int) - k).toNat = f + t - k by omega]; exact own_six_at c (by omega)
  · rw [if_neg q, if_neg (by omega)]; exact own_six_at c hk
theorem own_e_at {c : Int32} {cs : List Value} {f t k : Nat} (h : Rs (own_six c) cs f (f + t - 1 : Int)) (hk : k < 6) (ht : t < 6) (hft : f ≤ t) : cs[k]? = some (.int (c + Int32.ofNat (if f ≤ k ∧ k < t then f + t - 1 - k else k))) := by
  rw [h.2 k]
  by_cases q : f ≤ k ∧ k < t
  · rw [if_pos q, if_pos (by omega), show ((f + t - 1 : Int) - k).toNat = f + t - 1 - k by omega]; exact own_six_at c (by omega)
  · rw [if_neg q, if_neg (by omega)]; exact own_six_at c hk
theorem own_mm {p q : Int32} (h1 : 0 ≤ p.toInt) (h2 : p.toInt < 6) (h3 : 0 ≤ q.toInt) (h4 : q.toInt < 6) : ∃ f t : Nat, (if p.toInt ≤ q.toInt then p else q).toInt = (f : Int) ∧ (if q.toInt ≤ p.toInt then p else q).toInt = (t : Int) ∧ f ≤ t ∧ t < 6 := by
  by_cases c : p.toInt ≤ q.toInt
  · by_cases d : q.toInt ≤ p.toInt
    · rw [if_pos c, if_pos d]; exact ⟨p.toInt.toNat, p.toInt.toNat, by omega, by omega, by omega, by omega⟩
    · rw [if_pos c, if_neg d]; exact ⟨p.toInt.toNat, q.toInt.toNat, by omega, by omega, by omega, by omega⟩
  · rw [if_neg c, if_pos (by omega)]; exact ⟨q.toInt.toNat, p.toInt.toNat, by omega, by omega, by omega, by omega⟩

set_option maxRecDepth 65536 in
set_option maxHeartbeats 4000000 in
theorem c_min {l : Launch} {Z : State} {a0 : Array Value} {b : Nat} (hw : ∀ d ∈ tables_1, d.before a0 Z = true) {H : List GCell} {p0 q0 : Int32} :
    Met l Z a0 b (⟨"java/lang/Math", "min", "(II)I"⟩ : MethodName) jdk_29_method_69_code 2 (some .int) ({ frames := 0, cells := 0, slots := 0, locals := 0 } : Room) [.int p0, .int q0] H (fun v H' => ∃ u, v = some u ∧ (u = .int (if p0.toInt ≤ q0.toInt then p0 else q0) ∧ H' = H)) := by
  refine Met.of_go hw pn_0 (L0 := [.val (.int p0), .val (.int q0)]) rfl ?_
  intro p e s m args below meth c C
  refine go_iloadN e1_0 rfl ?_
  refine go_iloadN e1_1 rfl ?_
  refine go_icgt e1_2 (tg := 9) (by decide) ?_ ?_
  · intro c2
    refine go_iloadN e1_9 rfl ?_
    refine go_ireturn e1_10 rfl (by decide) (by decide) ?_
    first | exact ⟨_, rfl, by rw [if_pos (by omega)], rfl⟩ | exact ⟨_, rfl, by rw [if_neg (by omega)], rfl⟩
  · intro c2
    refine go_iloadN e1_5 rfl ?_
    refine go_goto e1_6 (tg := 10) (by decide) ?_
    refine go_ireturn e1_10 rfl (by decide) (by decide) ?_
    first | exact ⟨_, rfl, by rw [if_pos (by omega)], rfl⟩ | exact ⟨_, rfl, by rw [if_neg (by omega)], rfl⟩
set_option maxRecDepth 65536 in
set_option maxHeartbeats 4000000 in
theorem c_max {l : Launch} {Z : State} {a0 : Array Value} {b : Nat} (hw : ∀ d ∈ tables_1, d.before a0 Z = true) {H : List GCell} {p0 q0 : Int32} :
    Met l Z a0 b (⟨"java/lang/Math", "max", "(II)I"⟩ : MethodName) jdk_29_method_65_code 2 (some .int) ({ frames := 0, cells := 0, slots := 0, locals := 0 } : Room) [.int p0, .int q0] H (fun v H' => ∃ u, v = some u ∧ (u = .int (if q0.toInt ≤ p0.toInt then p0 else q0) ∧ H' = H)) := by
  refine Met.of_go hw pn_1 (L0 := [.val (.int p0), .val (.int q0)]) rfl ?_
  intro p e s m args below meth c C
  refine go_iloadN e2_0 rfl ?_
  refine go_iloadN e2_1 rfl ?_
  refine go_iclt e2_2 (tg := 9) (by decide) ?_ ?_
  · intro c2
    refine go_iloadN e2_9 rfl ?_
    refine go_ireturn e2_10 rfl (by decide) (by decide) ?_
    first | exact ⟨_, rfl, by rw [if_pos (by omega)], rfl⟩ | exact ⟨_, rfl, by rw [if_neg (by omega)], rfl⟩
  · intro c2
    refine go_iloadN e2_5 rfl ?_
    refine go_goto e2_6 (tg := 10) (by decide) ?_
    refine go_ireturn e2_10 rfl (by decide) (by decide) ?_
    first | exact ⟨_, rfl, by rw [if_pos (by omega)], rfl⟩ | exact ⟨_, rfl, by rw [if_neg (by omega)], rfl⟩
set_option maxRecDepth 65536 in
set_option maxHeartbeats 4000000 in
theorem c_rev {l : Launch} {Z : State} {a0 : Array Value} {b : Nat} (hw : ∀ d ∈ tables_1, d.before a0 Z = true) {H : List GCell} {a c0 f t : Nat} {ff tt : Int32} {vs us : List Value} (ha : H[a]? = some (ar .int vs)) (hc : H[c0]? = some (ar .int us)) (hac : a ≠ c0) (hf : ff.toInt = (f : Int)) (ht : tt.toInt = (t : Int)) (hft : f ≤ t) (htv : t < vs.length) (htu : t < us.length) (hsm : t ≤ 100) (hvi : ∀ v ∈ vs, ∃ x : Int32, v = .int x) (hui : ∀ v ∈ us, ∃ x : Int32, v = .int x) :
    Met l Z a0 b (⟨"com/example/stemcycle/stemcycle/EdgeLengths", "reverse", "([I[III)V"⟩ : MethodName) prog_8_method_3_code 7 none ({ frames := 0, cells := 0, slots := 0, locals := 0 } : Room) [.ref a, .ref c0, .int ff, .int tt] H (fun v H' => v = none ∧ ∃ cs es, H' = (H.set a (ar .int cs)).set c0 (ar .int es) ∧ Rs vs cs f (f + t : Int) ∧ Rs us es f (f + t - 1 : Int)) := by
  refine Met.of_go hw (plainFor_of_name pn_2) (L0 := [.val (.ref a), .val (.ref c0), .val (.int ff), .val (.int tt), .unset, .unset, .unset]) rfl ?_
  intro p e s m args below meth c C
  have loop2 : ∀ (cs : List Value), Rs vs cs f (f + t : Int) → ∀ (r i : Nat) (ii jj : Int32) (es : List Value) (o : Slot), (f + t - 1 : Int) - 2 * i ≤ r → f ≤ i → (i : Int) ≤ (f + t : Int) - i + 1 → ii.toInt = (i : Int) → jj.toInt = (f + t - 1 : Int) - i → Rv us es f (f + t - 1 : Int) i → oneS o = true → Go C 50 [.val (.ref a), .val (.ref c0), .val (.int ff), .val (.int tt), .val (.int ii), .val (.int jj), o] [] ((H.set a (ar .int cs)).set c0 (ar .int es)) 0 0 := by
    intro cs hcs r
    induction r with
    | zero =>
      intro i ii jj es o hr hfi hib hii hjj hes ho
      refine go_iload e3_50 rfl ?_
      refine go_iload e3_52 rfl ?_
      refine go_icge e3_54 (tg := 86) (by decide) ?_ ?_
      · intro c54
        refine go_return e3_86 rfl (by decide) (by decide) ?_
        exact ⟨rfl, cs, es, rfl, hcs, own_done hes (by omega)⟩
      · intro c54
        exfalso; omega
    | succ r ih =>
      intro i ii jj es o hr hfi hib hii hjj hes ho
      refine go_iload e3_50 rfl ?_
      refine go_iload e3_52 rfl ?_
      refine go_icge e3_54 (tg := 86) (by decide) ?_ ?_
      · intro c54
        refine go_return e3_86 rfl (by decide) (by decide) ?_
        exact ⟨rfl, cs, es, rfl, hcs, own_done hes (by omega)⟩
      · intro c54
        have hij : (i : Int) < (f + t - 1 : Int) - i := by omega
        obtain ⟨x, hx⟩ := own_rvi hes hui (Nat.le_refl _) (by omega) (by omega)
        obtain ⟨y, hy⟩ := own_rvi (k := (f + t - 1 - i : Int).toNat) hes hui (by omega) (by omega) (by omega)
        refine go_aloadN e3_57 rfl rfl ?_
        refine go_iload e3_58 rfl ?_
        refine go_iaload e3_60 (get_eq (get_ne hc hac)) (k := i) hii hx ?_
        refine go_istore_6 e3_61 ho ?_
        refine go_aloadN e3_63 rfl rfl ?_
        refine go_iload e3_64 rfl ?_
        refine go_aloadN e3_66 rfl rfl ?_
        refine go_iload e3_67 rfl ?_
        refine go_iaload e3_69 (get_eq (get_ne hc hac)) (k := (f + t - 1 - i : Int).toNat) (by rw [hjj]; omega) hy ?_
        refine go_iastore e3_70 (get_eq (get_ne hc hac)) (k := i) hii (List.getElem?_eq_some_iff.mp hx).1 ?_
        rw [List.set_set]
        refine go_aloadN e3_71 rfl rfl ?_
        refine go_iload e3_72 rfl ?_
        refine go_iload e3_74 rfl ?_
        refine go_iastore e3_76 (get_eq (get_ne hc hac)) (k := (f + t - 1 - i : Int).toNat) (by rw [hjj]; omega) (by rw [List.length_set]; exact (List.getElem?_eq_some_iff.mp hy).1) ?_
        rw [List.set_set]
        refine go_iinc_4 e3_77 (z := 1) rfl ?_
        refine go_iinc_5 e3_80 (z := (-1)) rfl ?_
        refine go_goto e3_83 (tg := 50) (by decide) ?_
        exact ih (i + 1) (ii + 1) (jj + (-1)) _ _ (by omega) (by omega) (by omega) (by rw [own_inc hii (by omega) (by omega)]; omega) (by rw [own_dec hjj (by omega) (by omega)]; omega) (own_swap hes hfi hij (by omega) hx hy) rfl
  have loop1 : ∀ (r i : Nat) (ii jj : Int32) (cs : List Value) (o : Slot), (f + t : Int) - 2 * i ≤ r → f ≤ i → (i : Int) ≤ (f + t : Int) - i + 1 → ii.toInt = (i : Int) → jj.toInt = (f + t : Int) - i → Rv vs cs f (f + t : Int) i → oneS o = true → Go C 6 [.val (.ref a), .val (.ref c0), .val (.int ff), .val (.int tt), .val (.int ii), .val (.int jj), o] [] (H.set a (ar .int cs)) 0 0 := by
    intro r
    induction r with
    | zero =>
      intro i ii jj cs o hr hfi hib hii hjj hcs ho
      refine go_iload e3_6 rfl ?_
      refine go_iload e3_8 rfl ?_
      refine go_icge e3_10 (tg := 42) (by decide) ?_ ?_
      · intro c10
        refine go_iloadN e3_42 rfl ?_
        refine go_istore_4 e3_43 rfl ?_
        refine go_iloadN e3_45 rfl ?_
        refine go_iconst e3_46 (x := 1) rfl ?_
        refine go_isub e3_47 ?_
        refine go_istore_5 e3_48 rfl ?_
        have hj0 := own_sub ht own_one (by omega) (by omega)
        have hL := loop2 cs (own_done hcs (by omega)) (f + t + 2) f ff (tt - 1) us _ (by omega) (by omega) (by omega) hf (by rw [hj0]; omega) (own_rv0 us f _) ho
        rw [set_same (show (H.set a (ar .int cs))[c0]? = some (ar .int us) from get_ne hc hac)] at hL
        exact hL
      · intro c10
        exfalso; omega
    | succ r ih =>
      intro i ii jj cs o hr hfi hib hii hjj hcs ho
      refine go_iload e3_6 rfl ?_
      refine go_iload e3_8 rfl ?_
      refine go_icge e3_10 (tg := 42) (by decide) ?_ ?_
      · intro c10
        refine go_iloadN e3_42 rfl ?_
        refine go_istore_4 e3_43 rfl ?_
        refine go_iloadN e3_45 rfl ?_
        refine go_iconst e3_46 (x := 1) rfl ?_
        refine go_isub e3_47 ?_
        refine go_istore_5 e3_48 rfl ?_
        have hj0 := own_sub ht own_one (by omega) (by omega)
        have hL := loop2 cs (own_done hcs (by omega)) (f + t + 2) f ff (tt - 1) us _ (by omega) (by omega) (by omega) hf (by rw [hj0]; omega) (own_rv0 us f _) ho
        rw [set_same (show (H.set a (ar .int cs))[c0]? = some (ar .int us) from get_ne hc hac)] at hL
        exact hL
      · intro c10
        have hij : (i : Int) < (f + t : Int) - i := by omega
        obtain ⟨x, hx⟩ := own_rvi hcs hvi (Nat.le_refl _) (by omega) (by omega)
        obtain ⟨y, hy⟩ := own_rvi (k := (f + t - i : Int).toNat) hcs hvi (by omega) (by omega) (by omega)
        refine go_aloadN e3_13 rfl rfl ?_
        refine go_iload e3_14 rfl ?_
        refine go_iaload e3_16 (get_eq ha) (k := i) hii hx ?_
        refine go_istore_6 e3_17 ho ?_
        refine go_aloadN e3_19 rfl rfl ?_
        refine go_iload e3_20 rfl ?_
        refine go_aloadN e3_22 rfl rfl ?_
        refine go_iload e3_23 rfl ?_
        refine go_iaload e3_25 (get_eq ha) (k := (f + t - i : Int).toNat) (by rw [hjj]; omega) hy ?_
        refine go_iastore e3_26 (get_eq ha) (k := i) hii (List.getElem?_eq_some_iff.mp hx).1 ?_
        rw [List.set_set]
        refine go_aloadN e3_27 rfl rfl ?_
        refine go_iload e3_28 rfl ?_
        refine go_iload e3_30 rfl ?_
        refine go_iastore e3_32 (get_eq ha) (k := (f + t - i : Int).toNat) (by rw [hjj]; omega) (by rw [List.length_set]; exact (List.getElem?_eq_some_iff.mp hy).1) ?_
        rw [List.set_set]
        refine go_iinc_4 e3_33 (z := 1) rfl ?_
        refine go_iinc_5 e3_36 (z := (-1)) rfl ?_
        refine go_goto e3_39 (tg := 6) (by decide) ?_
        exact ih (i + 1) (ii + 1) (jj + (-1)) _ _ (by omega) (by omega) (by omega) (by rw [own_inc hii (by omega) (by omega)]; omega) (by rw [own_dec hjj (by omega) (by omega)]; omega) (own_swap hcs hfi hij (by omega) hx hy) rfl
  refine go_iloadN e3_0 rfl ?_
  refine go_istore_4 e3_1 rfl ?_
  refine go_iloadN e3_3 rfl ?_
  refine go_istore_5 e3_4 rfl ?_
  have hL := loop1 (f + t + 2) f ff tt vs .unset (by omega) (by omega) (by omega) hf (by rw [ht]; omega) (own_rv0 vs f _) rfl
  rw [set_same ha] at hL
  exact hL
set_option maxRecDepth 65536 in
set_option maxHeartbeats 4000000 in
theorem c_cityOk {l : Launch} {Z : State} {a0 : Array Value} {b : Nat} (hw : ∀ d ∈ tables_1, d.before a0 Z = true) {H : List GCell} {a k f t : Nat} {kk ff tt c1 : Int32} {cs : List Value} (ha : H[a]? = some (ar .int cs)) (hk : kk.toInt = (k : Int)) (hf : ff.toInt = (f : Int)) (ht : tt.toInt = (t : Int)) (hsm : t ≤ 100) (hsk : k ≤ 100) (hft : f ≤ t) (hx : cs[k]? = some (.int (c1 + Int32.ofNat (if f ≤ k ∧ k ≤ t then f + t - k else k)))) :
    Met l Z a0 b (⟨"com/example/stemcycle/stemcycle/EdgeLengthsReverse209PinLaw", "cityOk", "([IIIII)Z"⟩ : MethodName) method_3_code 6 (some .boolean) ({ frames := 0, cells := 0, slots := 0, locals := 0 } : Room) [.ref a, .int kk, .int ff, .int tt, .int c1] H (fun v H' => ∃ u, v = some u ∧ (u = .int 1 ∧ H' = H)) := by
  refine Met.of_go hw (plainFor_of_name pn_3) (L0 := [.val (.ref a), .val (.int kk), .val (.int ff), .val (.int tt), .val (.int c1), .unset]) rfl ?_
  intro p e s m args below meth c C
  refine go_iloadN e4_0 rfl ?_
  refine go_iloadN e4_1 rfl ?_
  refine go_icgt e4_2 (tg := 18) (by decide) ?_ ?_
  · intro c2
    refine go_iloadN e4_18 rfl ?_
    refine go_istore_5 e4_19 rfl ?_
    refine go_aloadN e4_21 rfl rfl ?_
    refine go_iloadN e4_22 rfl ?_
    refine go_iaload e4_23 ha (k := k) hk hx ?_
    refine go_iload e4_24 rfl ?_
    refine go_iload e4_26 rfl ?_
    refine go_iadd e4_28 ?_
    refine go_icneN e4_29 (tg := 36) (by decide) (by rw [own_ofN hk, if_neg (by omega)]) ?_
    refine go_iconst e4_32 (x := 1) rfl ?_
    refine go_goto e4_33 (tg := 37) (by decide) ?_
    refine go_zreturn e4_37 rfl rfl (by decide) (by decide) ?_
    exact ⟨_, rfl, rfl, rfl⟩
  · intro c2
    refine go_iloadN e4_5 rfl ?_
    refine go_iloadN e4_6 rfl ?_
    refine go_icgt e4_7 (tg := 18) (by decide) ?_ ?_
    · intro c7
      refine go_iloadN e4_18 rfl ?_
      refine go_istore_5 e4_19 rfl ?_
      refine go_aloadN e4_21 rfl rfl ?_
      refine go_iloadN e4_22 rfl ?_
      refine go_iaload e4_23 ha (k := k) hk hx ?_
      refine go_iload e4_24 rfl ?_
      refine go_iload e4_26 rfl ?_
      refine go_iadd e4_28 ?_
      refine go_icneN e4_29 (tg := 36) (by decide) (by rw [own_ofN hk, if_neg (by omega)]) ?_
      refine go_iconst e4_32 (x := 1) rfl ?_
      refine go_goto e4_33 (tg := 37) (by decide) ?_
      refine go_zreturn e4_37 rfl rfl (by decide) (by decide) ?_
      exact ⟨_, rfl, rfl, rfl⟩
    · intro c7
      refine go_iloadN e4_10 rfl ?_
      refine go_iloadN e4_11 rfl ?_
      refine go_iadd e4_12 ?_
      refine go_iloadN e4_13 rfl ?_
      refine go_isub e4_14 ?_
      refine go_goto e4_15 (tg := 19) (by decide) ?_
      refine go_istore_5 e4_19 rfl ?_
      refine go_aloadN e4_21 rfl rfl ?_
      refine go_iloadN e4_22 rfl ?_
      refine go_iaload e4_23 ha (k := k) hk hx ?_
      refine go_iload e4_24 rfl ?_
      refine go_iload e4_26 rfl ?_
      refine go_iadd e4_28 ?_
      refine go_icneN e4_29 (tg := 36) (by decide) (by rw [own_ofN (x := ff + tt - kk) (k := f + t - k) (by rw [own_sub (own_add hf ht (by omega) (by omega)) hk (by omega) (by omega)]; omega), if_pos (by omega)]) ?_
      refine go_iconst e4_32 (x := 1) rfl ?_
      refine go_goto e4_33 (tg := 37) (by decide) ?_
      refine go_zreturn e4_37 rfl rfl (by decide) (by decide) ?_
      exact ⟨_, rfl, rfl, rfl⟩
set_option maxRecDepth 65536 in
set_option maxHeartbeats 4000000 in
theorem c_edgeOk {l : Launch} {Z : State} {a0 : Array Value} {b : Nat} (hw : ∀ d ∈ tables_1, d.before a0 Z = true) {H : List GCell} {a k f t : Nat} {kk ff tt c1 : Int32} {cs : List Value} (ha : H[a]? = some (ar .int cs)) (hk : kk.toInt = (k : Int)) (hf : ff.toInt = (f : Int)) (ht : tt.toInt = (t : Int)) (hsm : t ≤ 100) (hsk : k ≤ 100) (hft : f ≤ t) (hx : cs[k]? = some (.int (c1 + Int32.ofNat (if f ≤ k ∧ k < t then f + t - 1 - k else k)))) :
    Met l Z a0 b (⟨"com/example/stemcycle/stemcycle/EdgeLengthsReverse209PinLaw", "edgeOk", "([IIIII)Z"⟩ : MethodName) method_4_code 6 (some .boolean) ({ frames := 0, cells := 0, slots := 0, locals := 0 } : Room) [.ref a, .int kk, .int ff, .int tt, .int c1] H (fun v H' => ∃ u, v = some u ∧ (u = .int 1 ∧ H' = H)) := by
  refine Met.of_go hw (plainFor_of_name pn_3) (L0 := [.val (.ref a), .val (.int kk), .val (.int ff), .val (.int tt), .val (.int c1), .unset]) rfl ?_
  intro p e s m args below meth c C
  refine go_iloadN e5_0 rfl ?_
  refine go_iloadN e5_1 rfl ?_
  refine go_icgt e5_2 (tg := 20) (by decide) ?_ ?_
  · intro c2
    refine go_iloadN e5_20 rfl ?_
    refine go_istore_5 e5_21 rfl ?_
    refine go_aloadN e5_23 rfl rfl ?_
    refine go_iloadN e5_24 rfl ?_
    refine go_iaload e5_25 ha (k := k) hk hx ?_
    refine go_iload e5_26 rfl ?_
    refine go_iload e5_28 rfl ?_
    refine go_iadd e5_30 ?_
    refine go_icneN e5_31 (tg := 38) (by decide) (by rw [own_ofN hk, if_neg (by omega)]) ?_
    refine go_iconst e5_34 (x := 1) rfl ?_
    refine go_goto e5_35 (tg := 39) (by decide) ?_
    refine go_zreturn e5_39 rfl rfl (by decide) (by decide) ?_
    exact ⟨_, rfl, rfl, rfl⟩
  · intro c2
    refine go_iloadN e5_5 rfl ?_
    refine go_iloadN e5_6 rfl ?_
    refine go_icge e5_7 (tg := 20) (by decide) ?_ ?_
    · intro c7
      refine go_iloadN e5_20 rfl ?_
      refine go_istore_5 e5_21 rfl ?_
      refine go_aloadN e5_23 rfl rfl ?_
      refine go_iloadN e5_24 rfl ?_
      refine go_iaload e5_25 ha (k := k) hk hx ?_
      refine go_iload e5_26 rfl ?_
      refine go_iload e5_28 rfl ?_
      refine go_iadd e5_30 ?_
      refine go_icneN e5_31 (tg := 38) (by decide) (by rw [own_ofN hk, if_neg (by omega)]) ?_
      refine go_iconst e5_34 (x := 1) rfl ?_
      refine go_goto e5_35 (tg := 39) (by decide) ?_
      refine go_zreturn e5_39 rfl rfl (by decide) (by decide) ?_
      exact ⟨_, rfl, rfl, rfl⟩
    · intro c7
      refine go_iloadN e5_10 rfl ?_
      refine go_iloadN e5_11 rfl ?_
      refine go_iadd e5_12 ?_
      refine go_iconst e5_13 (x := 1) rfl ?_
      refine go_isub e5_14 ?_
      refine go_iloadN e5_15 rfl ?_
      refine go_isub e5_16 ?_
      refine go_goto e5_17 (tg := 21) (by decide) ?_
      refine go_istore_5 e5_21 rfl ?_
      refine go_aloadN e5_23 rfl rfl ?_
      refine go_iloadN e5_24 rfl ?_
      refine go_iaload e5_25 ha (k := k) hk hx ?_
      refine go_iload e5_26 rfl ?_
      refine go_iload e5_28 rfl ?_
      refine go_iadd e5_30 ?_
      refine go_icneN e5_31 (tg := 38) (by decide) (by rw [own_ofN (x := ff + tt - 1 - kk) (k := f + t - 1 - k) (by rw [own_sub (own_sub (own_add hf ht (by omega) (by omega)) own_one (by omega) (by omega)) hk (by omega) (by omega)]; omega), if_pos (by omega)]) ?_
      refine go_iconst e5_34 (x := 1) rfl ?_
      refine go_goto e5_35 (tg := 39) (by decide) ?_
      refine go_zreturn e5_39 rfl rfl (by decide) (by decide) ?_
      exact ⟨_, rfl, rfl, rfl⟩
set_option maxRecDepth 65536 in
set_option maxHeartbeats 4000000 in
theorem law_met {l : Launch} {Z : State} {a0 : Array Value} {b : Nat} (hw : ∀ d ∈ tables_1, d.before a0 Z = true) (i0 i1 i2 i3 : Int32) :
    Met l Z a0 b x code maxLocals ret room_1 [.int i0, .int i1, .int i2, .int i3] [] (fun v _ => v = some (.int 1)) := by
  refine Met.of_go hw (plainFor_of_name pn_3) (L0 := [.val (.int i0), .val (.int i1), .val (.int i2), .val (.int i3), .unset, .unset, .unset, .unset, .unset, .unset]) rfl ?_
  intro p e s m args below meth c C
  refine go_iloadN e0_0 rfl ?_
  refine go_ldc e0_1 (wd 0 rfl) ?_
  refine go_iand e0_3 ?_
  refine go_bipush e0_4 (x := 6) rfl ?_
  refine go_irem e0_6 (by decide) ?_
  refine go_istoreX_4 e0_7 rfl ?_
  intro p0 hp0
  refine go_iloadN e0_9 rfl ?_
  refine go_ldc e0_10 (wd 0 rfl) ?_
  refine go_iand e0_12 ?_
  refine go_bipush e0_13 (x := 6) rfl ?_
  refine go_irem e0_15 (by decide) ?_
  refine go_istoreX_5 e0_16 rfl ?_
  intro q0 hq0
  refine go_iload e0_18 rfl ?_
  refine go_iload e0_20 rfl ?_
  refine go_static_2 e0_22 (wd 1 rfl) (wd 2 rfl) (wd 4 rfl) (wd 3 rfl) hy_4 pd_5 rfl (c_min hw) rfl 0 rfl (by decide) (by decide) (by decide) (by decide) ?_
  rintro _ _ ⟨rfl, rfl⟩
  try simp only [List.replicate_succ, List.replicate_zero, List.set_cons_zero, List.set_cons_succ, List.length_nil, List.length_cons, Nat.zero_add, Nat.reduceAdd, List.nil_append, List.cons_append]
  refine go_istoreX_6 e0_25 rfl ?_
  intro fr hfr
  refine go_iload e0_27 rfl ?_
  refine go_iload e0_29 rfl ?_
  refine go_static_2 e0_31 (wd 5 rfl) (wd 6 rfl) (wd 7 rfl) (wd 3 rfl) hy_4 pd_5 rfl (c_max hw) rfl 0 rfl (by decide) (by decide) (by decide) (by decide) ?_
  rintro _ _ ⟨rfl, rfl⟩
  try simp only [List.replicate_succ, List.replicate_zero, List.set_cons_zero, List.set_cons_succ, List.length_nil, List.length_cons, Nat.zero_add, Nat.reduceAdd, List.nil_append, List.cons_append]
  refine go_istoreX_7 e0_34 rfl ?_
  intro to_ hto_
  have hp := (c_iremV (i0 &&& 2147483647) 6).1 (c_and _ _ (by decide)).1 (by decide)
  have hq := (c_iremV (i1 &&& 2147483647) 6).1 (c_and _ _ (by decide)).1 (by decide)
  have k6 : (6 : Int32).toInt = 6 := rfl
  rw [← hp0] at hp
  rw [← hq0] at hq
  obtain ⟨f, t, hf, ht, hft, ht6⟩ := own_mm (p := p0) (q := q0) (by omega) (by omega) (by omega) (by omega)
  rw [← hfr] at hf
  rw [← hto_] at ht
  refine go_bipush e0_36 (x := 6) rfl ?_
  refine go_newarray e0_38 (wd 8 rfl) (k := 6) rfl (vs := [.int 0, .int 0, .int 0, .int 0, .int 0, .int 0]) rfl (cap := 6) (by decide) (by decide) (by decide) (by decide) ?_
  simp only [List.replicate_succ, List.replicate_zero, List.set_cons_zero, List.set_cons_succ, List.length_nil, List.length_cons, Nat.zero_add, Nat.reduceAdd, List.nil_append, List.cons_append]
  refine go_dup e0_40 rfl ?_
  refine go_iconst e0_41 (x := 0) rfl ?_
  refine go_iloadN e0_42 rfl ?_
  refine go_iastore e0_43 rfl (k := 0) (by decide) (Nat.le_of_ble_eq_true rfl) ?_
  simp only [List.replicate_succ, List.replicate_zero, List.set_cons_zero, List.set_cons_succ, List.length_nil, List.length_cons, Nat.zero_add, Nat.reduceAdd, List.nil_append, List.cons_append]
  refine go_dup e0_44 rfl ?_
  refine go_iconst e0_45 (x := 1) rfl ?_
  refine go_iloadN e0_46 rfl ?_
  refine go_iconst e0_47 (x := 1) rfl ?_
  refine go_iadd e0_48 ?_
  refine go_iastore e0_49 rfl (k := 1) (by decide) (Nat.le_of_ble_eq_true rfl) ?_
  simp only [List.replicate_succ, List.replicate_zero, List.set_cons_zero, List.set_cons_succ, List.length_nil, List.length_cons, Nat.zero_add, Nat.reduceAdd, List.nil_append, List.cons_append]
  refine go_dup e0_50 rfl ?_
  refine go_iconst e0_51 (x := 2) rfl ?_
  refine go_iloadN e0_52 rfl ?_
  refine go_iconst e0_53 (x := 2) rfl ?_
  refine go_iadd e0_54 ?_
  refine go_iastore e0_55 rfl (k := 2) (by decide) (Nat.le_of_ble_eq_true rfl) ?_
  simp only [List.replicate_succ, List.replicate_zero, List.set_cons_zero, List.set_cons_succ, List.length_nil, List.length_cons, Nat.zero_add, Nat.reduceAdd, List.nil_append, List.cons_append]
  refine go_dup e0_56 rfl ?_
  refine go_iconst e0_57 (x := 3) rfl ?_
  refine go_iloadN e0_58 rfl ?_
  refine go_iconst e0_59 (x := 3) rfl ?_
  refine go_iadd e0_60 ?_
  refine go_iastore e0_61 rfl (k := 3) (by decide) (Nat.le_of_ble_eq_true rfl) ?_
  simp only [List.replicate_succ, List.replicate_zero, List.set_cons_zero, List.set_cons_succ, List.length_nil, List.length_cons, Nat.zero_add, Nat.reduceAdd, List.nil_append, List.cons_append]
  refine go_dup e0_62 rfl ?_
  refine go_iconst e0_63 (x := 4) rfl ?_
  refine go_iloadN e0_64 rfl ?_
  refine go_iconst e0_65 (x := 4) rfl ?_
  refine go_iadd e0_66 ?_
  refine go_iastore e0_67 rfl (k := 4) (by decide) (Nat.le_of_ble_eq_true rfl) ?_
  simp only [List.replicate_succ, List.replicate_zero, List.set_cons_zero, List.set_cons_succ, List.length_nil, List.length_cons, Nat.zero_add, Nat.reduceAdd, List.nil_append, List.cons_append]
  refine go_dup e0_68 rfl ?_
  refine go_iconst e0_69 (x := 5) rfl ?_
  refine go_iloadN e0_70 rfl ?_
  refine go_iconst e0_71 (x := 5) rfl ?_
  refine go_iadd e0_72 ?_
  refine go_iastore e0_73 rfl (k := 5) (by decide) (Nat.le_of_ble_eq_true rfl) ?_
  simp only [List.replicate_succ, List.replicate_zero, List.set_cons_zero, List.set_cons_succ, List.length_nil, List.length_cons, Nat.zero_add, Nat.reduceAdd, List.nil_append, List.cons_append]
  refine go_astore_8 e0_74 rfl rfl ?_
  refine go_bipush e0_76 (x := 6) rfl ?_
  refine go_newarray e0_78 (wd 8 rfl) (k := 6) rfl (vs := [.int 0, .int 0, .int 0, .int 0, .int 0, .int 0]) rfl (cap := 6) (by decide) (by decide) (by decide) (by decide) ?_
  simp only [List.replicate_succ, List.replicate_zero, List.set_cons_zero, List.set_cons_succ, List.length_nil, List.length_cons, Nat.zero_add, Nat.reduceAdd, List.nil_append, List.cons_append]
  refine go_dup e0_80 rfl ?_
  refine go_iconst e0_81 (x := 0) rfl ?_
  refine go_iloadN e0_82 rfl ?_
  refine go_iastore e0_83 rfl (k := 0) (by decide) (Nat.le_of_ble_eq_true rfl) ?_
  simp only [List.replicate_succ, List.replicate_zero, List.set_cons_zero, List.set_cons_succ, List.length_nil, List.length_cons, Nat.zero_add, Nat.reduceAdd, List.nil_append, List.cons_append]
  refine go_dup e0_84 rfl ?_
  refine go_iconst e0_85 (x := 1) rfl ?_
  refine go_iloadN e0_86 rfl ?_
  refine go_iconst e0_87 (x := 1) rfl ?_
  refine go_iadd e0_88 ?_
  refine go_iastore e0_89 rfl (k := 1) (by decide) (Nat.le_of_ble_eq_true rfl) ?_
  simp only [List.replicate_succ, List.replicate_zero, List.set_cons_zero, List.set_cons_succ, List.length_nil, List.length_cons, Nat.zero_add, Nat.reduceAdd, List.nil_append, List.cons_append]
  refine go_dup e0_90 rfl ?_
  refine go_iconst e0_91 (x := 2) rfl ?_
  refine go_iloadN e0_92 rfl ?_
  refine go_iconst e0_93 (x := 2) rfl ?_
  refine go_iadd e0_94 ?_
  refine go_iastore e0_95 rfl (k := 2) (by decide) (Nat.le_of_ble_eq_true rfl) ?_
  simp only [List.replicate_succ, List.replicate_zero, List.set_cons_zero, List.set_cons_succ, List.length_nil, List.length_cons, Nat.zero_add, Nat.reduceAdd, List.nil_append, List.cons_append]
  refine go_dup e0_96 rfl ?_
  refine go_iconst e0_97 (x := 3) rfl ?_
  refine go_iloadN e0_98 rfl ?_
  refine go_iconst e0_99 (x := 3) rfl ?_
  refine go_iadd e0_100 ?_
  refine go_iastore e0_101 rfl (k := 3) (by decide) (Nat.le_of_ble_eq_true rfl) ?_
  simp only [List.replicate_succ, List.replicate_zero, List.set_cons_zero, List.set_cons_succ, List.length_nil, List.length_cons, Nat.zero_add, Nat.reduceAdd, List.nil_append, List.cons_append]
  refine go_dup e0_102 rfl ?_
  refine go_iconst e0_103 (x := 4) rfl ?_
  refine go_iloadN e0_104 rfl ?_
  refine go_iconst e0_105 (x := 4) rfl ?_
  refine go_iadd e0_106 ?_
  refine go_iastore e0_107 rfl (k := 4) (by decide) (Nat.le_of_ble_eq_true rfl) ?_
  simp only [List.replicate_succ, List.replicate_zero, List.set_cons_zero, List.set_cons_succ, List.length_nil, List.length_cons, Nat.zero_add, Nat.reduceAdd, List.nil_append, List.cons_append]
  refine go_dup e0_108 rfl ?_
  refine go_iconst e0_109 (x := 5) rfl ?_
  refine go_iloadN e0_110 rfl ?_
  refine go_iconst e0_111 (x := 5) rfl ?_
  refine go_iadd e0_112 ?_
  refine go_iastore e0_113 rfl (k := 5) (by decide) (Nat.le_of_ble_eq_true rfl) ?_
  simp only [List.replicate_succ, List.replicate_zero, List.set_cons_zero, List.set_cons_succ, List.length_nil, List.length_cons, Nat.zero_add, Nat.reduceAdd, List.nil_append, List.cons_append]
  refine go_astore_9 e0_114 rfl rfl ?_
  refine go_aload e0_116 rfl rfl ?_
  refine go_aload e0_118 rfl rfl ?_
  refine go_iload e0_120 rfl ?_
  refine go_iload e0_122 rfl ?_
  refine go_staticV_4 e0_124 (wd 9 rfl) (wd 10 rfl) (wd 12 rfl) (wd 11 rfl) hy_6 pd_7 rfl (c_rev hw (vs := own_six i2) (us := own_six i3) rfl rfl (by decide) hf ht hft ht6 ht6 (by omega) (own_six_i i2) (own_six_i i3)) rfl 0 rfl (by decide) (by decide) (by decide) (by decide) ?_
  rintro _ ⟨cs, es, rfl, hcs, hes⟩
  try simp only [List.replicate_succ, List.replicate_zero, List.set_cons_zero, List.set_cons_succ, List.length_nil, List.length_cons, Nat.zero_add, Nat.reduceAdd, List.nil_append, List.cons_append]
  refine go_aload e0_127 rfl rfl ?_
  refine go_iconst e0_129 (x := 0) rfl ?_
  refine go_iload e0_130 rfl ?_
  refine go_iload e0_132 rfl ?_
  refine go_iloadN e0_134 rfl ?_
  refine go_static_5 e0_135 (wd 13 rfl) (wd 14 rfl) (wd 16 rfl) (wd 15 rfl) hy_8 pd_9 rfl (c_cityOk hw (k := 0) rfl rfl hf ht (by omega) (by decide) hft (own_c_at hcs (by decide) ht6 hft)) rfl 0 rfl (by decide) (by decide) (by decide) (by decide) ?_
  rintro _ _ ⟨rfl, rfl⟩
  try simp only [List.replicate_succ, List.replicate_zero, List.set_cons_zero, List.set_cons_succ, List.length_nil, List.length_cons, Nat.zero_add, Nat.reduceAdd, List.nil_append, List.cons_append]
  refine go_ifeqN e0_138 (tg := 299) (by decide) (by decide) ?_
  refine go_aload e0_141 rfl rfl ?_
  refine go_iconst e0_143 (x := 1) rfl ?_
  refine go_iload e0_144 rfl ?_
  refine go_iload e0_146 rfl ?_
  refine go_iloadN e0_148 rfl ?_
  refine go_static_5 e0_149 (wd 13 rfl) (wd 14 rfl) (wd 16 rfl) (wd 15 rfl) hy_8 pd_9 rfl (c_cityOk hw (k := 1) rfl rfl hf ht (by omega) (by decide) hft (own_c_at hcs (by decide) ht6 hft)) rfl 0 rfl (by decide) (by decide) (by decide) (by decide) ?_
  rintro _ _ ⟨rfl, rfl⟩
  try simp only [List.replicate_succ, List.replicate_zero, List.set_cons_zero, List.set_cons_succ, List.length_nil, List.length_cons, Nat.zero_add, Nat.reduceAdd, List.nil_append, List.cons_append]
  refine go_ifeqN e0_152 (tg := 299) (by decide) (by decide) ?_
  refine go_aload e0_155 rfl rfl ?_
  refine go_iconst e0_157 (x := 2) rfl ?_
  refine go_iload e0_158 rfl ?_
  refine go_iload e0_160 rfl ?_
  refine go_iloadN e0_162 rfl ?_
  refine go_static_5 e0_163 (wd 13 rfl) (wd 14 rfl) (wd 16 rfl) (wd 15 rfl) hy_8 pd_9 rfl (c_cityOk hw (k := 2) rfl rfl hf ht (by omega) (by decide) hft (own_c_at hcs (by decide) ht6 hft)) rfl 0 rfl (by decide) (by decide) (by decide) (by decide) ?_
  rintro _ _ ⟨rfl, rfl⟩
  try simp only [List.replicate_succ, List.replicate_zero, List.set_cons_zero, List.set_cons_succ, List.length_nil, List.length_cons, Nat.zero_add, Nat.reduceAdd, List.nil_append, List.cons_append]
  refine go_ifeqN e0_166 (tg := 299) (by decide) (by decide) ?_
  refine go_aload e0_169 rfl rfl ?_
  refine go_iconst e0_171 (x := 3) rfl ?_
  refine go_iload e0_172 rfl ?_
  refine go_iload e0_174 rfl ?_
  refine go_iloadN e0_176 rfl ?_
  refine go_static_5 e0_177 (wd 13 rfl) (wd 14 rfl) (wd 16 rfl) (wd 15 rfl) hy_8 pd_9 rfl (c_cityOk hw (k := 3) rfl rfl hf ht (by omega) (by decide) hft (own_c_at hcs (by decide) ht6 hft)) rfl 0 rfl (by decide) (by decide) (by decide) (by decide) ?_
  rintro _ _ ⟨rfl, rfl⟩
  try simp only [List.replicate_succ, List.replicate_zero, List.set_cons_zero, List.set_cons_succ, List.length_nil, List.length_cons, Nat.zero_add, Nat.reduceAdd, List.nil_append, List.cons_append]
  refine go_ifeqN e0_180 (tg := 299) (by decide) (by decide) ?_
  refine go_aload e0_183 rfl rfl ?_
  refine go_iconst e0_185 (x := 4) rfl ?_
  refine go_iload e0_186 rfl ?_
  refine go_iload e0_188 rfl ?_
  refine go_iloadN e0_190 rfl ?_
  refine go_static_5 e0_191 (wd 13 rfl) (wd 14 rfl) (wd 16 rfl) (wd 15 rfl) hy_8 pd_9 rfl (c_cityOk hw (k := 4) rfl rfl hf ht (by omega) (by decide) hft (own_c_at hcs (by decide) ht6 hft)) rfl 0 rfl (by decide) (by decide) (by decide) (by decide) ?_
  rintro _ _ ⟨rfl, rfl⟩
  try simp only [List.replicate_succ, List.replicate_zero, List.set_cons_zero, List.set_cons_succ, List.length_nil, List.length_cons, Nat.zero_add, Nat.reduceAdd, List.nil_append, List.cons_append]
  refine go_ifeqN e0_194 (tg := 299) (by decide) (by decide) ?_
  refine go_aload e0_197 rfl rfl ?_
  refine go_iconst e0_199 (x := 5) rfl ?_
  refine go_iload e0_200 rfl ?_
  refine go_iload e0_202 rfl ?_
  refine go_iloadN e0_204 rfl ?_
  refine go_static_5 e0_205 (wd 13 rfl) (wd 14 rfl) (wd 16 rfl) (wd 15 rfl) hy_8 pd_9 rfl (c_cityOk hw (k := 5) rfl rfl hf ht (by omega) (by decide) hft (own_c_at hcs (by decide) ht6 hft)) rfl 0 rfl (by decide) (by decide) (by decide) (by decide) ?_
  rintro _ _ ⟨rfl, rfl⟩
  try simp only [List.replicate_succ, List.replicate_zero, List.set_cons_zero, List.set_cons_succ, List.length_nil, List.length_cons, Nat.zero_add, Nat.reduceAdd, List.nil_append, List.cons_append]
  refine go_ifeqN e0_208 (tg := 299) (by decide) (by decide) ?_
  refine go_aload e0_211 rfl rfl ?_
  refine go_iconst e0_213 (x := 0) rfl ?_
  refine go_iload e0_214 rfl ?_
  refine go_iload e0_216 rfl ?_
  refine go_iloadN e0_218 rfl ?_
  refine go_static_5 e0_219 (wd 17 rfl) (wd 18 rfl) (wd 19 rfl) (wd 15 rfl) hy_8 pd_9 rfl (c_edgeOk hw (k := 0) rfl rfl hf ht (by omega) (by decide) hft (own_e_at hes (by decide) ht6 hft)) rfl 0 rfl (by decide) (by decide) (by decide) (by decide) ?_
  rintro _ _ ⟨rfl, rfl⟩
  try simp only [List.replicate_succ, List.replicate_zero, List.set_cons_zero, List.set_cons_succ, List.length_nil, List.length_cons, Nat.zero_add, Nat.reduceAdd, List.nil_append, List.cons_append]
  refine go_ifeqN e0_222 (tg := 299) (by decide) (by decide) ?_
  refine go_aload e0_225 rfl rfl ?_
  refine go_iconst e0_227 (x := 1) rfl ?_
  refine go_iload e0_228 rfl ?_
  refine go_iload e0_230 rfl ?_
  refine go_iloadN e0_232 rfl ?_
  refine go_static_5 e0_233 (wd 17 rfl) (wd 18 rfl) (wd 19 rfl) (wd 15 rfl) hy_8 pd_9 rfl (c_edgeOk hw (k := 1) rfl rfl hf ht (by omega) (by decide) hft (own_e_at hes (by decide) ht6 hft)) rfl 0 rfl (by decide) (by decide) (by decide) (by decide) ?_
  rintro _ _ ⟨rfl, rfl⟩
  try simp only [List.replicate_succ, List.replicate_zero, List.set_cons_zero, List.set_cons_succ, List.length_nil, List.length_cons, Nat.zero_add, Nat.reduceAdd, List.nil_append, List.cons_append]
  refine go_ifeqN e0_236 (tg := 299) (by decide) (by decide) ?_
  refine go_aload e0_239 rfl rfl ?_
  refine go_iconst e0_241 (x := 2) rfl ?_
  refine go_iload e0_242 rfl ?_
  refine go_iload e0_244 rfl ?_
  refine go_iloadN e0_246 rfl ?_
  refine go_static_5 e0_247 (wd 17 rfl) (wd 18 rfl) (wd 19 rfl) (wd 15 rfl) hy_8 pd_9 rfl (c_edgeOk hw (k := 2) rfl rfl hf ht (by omega) (by decide) hft (own_e_at hes (by decide) ht6 hft)) rfl 0 rfl (by decide) (by decide) (by decide) (by decide) ?_
  rintro _ _ ⟨rfl, rfl⟩
  try simp only [List.replicate_succ, List.replicate_zero, List.set_cons_zero, List.set_cons_succ, List.length_nil, List.length_cons, Nat.zero_add, Nat.reduceAdd, List.nil_append, List.cons_append]
  refine go_ifeqN e0_250 (tg := 299) (by decide) (by decide) ?_
  refine go_aload e0_253 rfl rfl ?_
  refine go_iconst e0_255 (x := 3) rfl ?_
  refine go_iload e0_256 rfl ?_
  refine go_iload e0_258 rfl ?_
  refine go_iloadN e0_260 rfl ?_
  refine go_static_5 e0_261 (wd 17 rfl) (wd 18 rfl) (wd 19 rfl) (wd 15 rfl) hy_8 pd_9 rfl (c_edgeOk hw (k := 3) rfl rfl hf ht (by omega) (by decide) hft (own_e_at hes (by decide) ht6 hft)) rfl 0 rfl (by decide) (by decide) (by decide) (by decide) ?_
  rintro _ _ ⟨rfl, rfl⟩
  try simp only [List.replicate_succ, List.replicate_zero, List.set_cons_zero, List.set_cons_succ, List.length_nil, List.length_cons, Nat.zero_add, Nat.reduceAdd, List.nil_append, List.cons_append]
  refine go_ifeqN e0_264 (tg := 299) (by decide) (by decide) ?_
  refine go_aload e0_267 rfl rfl ?_
  refine go_iconst e0_269 (x := 4) rfl ?_
  refine go_iload e0_270 rfl ?_
  refine go_iload e0_272 rfl ?_
  refine go_iloadN e0_274 rfl ?_
  refine go_static_5 e0_275 (wd 17 rfl) (wd 18 rfl) (wd 19 rfl) (wd 15 rfl) hy_8 pd_9 rfl (c_edgeOk hw (k := 4) rfl rfl hf ht (by omega) (by decide) hft (own_e_at hes (by decide) ht6 hft)) rfl 0 rfl (by decide) (by decide) (by decide) (by decide) ?_
  rintro _ _ ⟨rfl, rfl⟩
  try simp only [List.replicate_succ, List.replicate_zero, List.set_cons_zero, List.set_cons_succ, List.length_nil, List.length_cons, Nat.zero_add, Nat.reduceAdd, List.nil_append, List.cons_append]
  refine go_ifeqN e0_278 (tg := 299) (by decide) (by decide) ?_
  refine go_aload e0_281 rfl rfl ?_
  refine go_iconst e0_283 (x := 5) rfl ?_
  refine go_iload e0_284 rfl ?_
  refine go_iload e0_286 rfl ?_
  refine go_iloadN e0_288 rfl ?_
  refine go_static_5 e0_289 (wd 17 rfl) (wd 18 rfl) (wd 19 rfl) (wd 15 rfl) hy_8 pd_9 rfl (c_edgeOk hw (k := 5) rfl rfl hf ht (by omega) (by decide) hft (own_e_at hes (by decide) ht6 hft)) rfl 0 rfl (by decide) (by decide) (by decide) (by decide) ?_
  rintro _ _ ⟨rfl, rfl⟩
  try simp only [List.replicate_succ, List.replicate_zero, List.set_cons_zero, List.set_cons_succ, List.length_nil, List.length_cons, Nat.zero_add, Nat.reduceAdd, List.nil_append, List.cons_append]
  refine go_ifeqN e0_292 (tg := 299) (by decide) (by decide) ?_
  refine go_iconst e0_295 (x := 1) rfl ?_
  refine go_goto e0_296 (tg := 300) (by decide) ?_
  refine go_zreturn e0_300 rfl (by decide) (by decide) (by decide) ?_
  exact rfl
set_option maxRecDepth 65536 in
set_option maxHeartbeats 40000000 in
theorem comes_1 {Post : Tables → Env → Array Value → State → Outcome → State → Prop} (hpost : ∀ tb e args s v u, (limb_1_1.after args s (.returned v) u = true ∧ limb_1_2.after args s (.returned v) u = true ∧ True) → FrameEnd s (.returned v) u (Jvm.fieldLocs frame_1_writes args s ++ Jvm.arrayLocs frame_1_arrays args s ++ Jvm.staticLocs frame_1_statics s) 16 128 → Post tb e args s (.returned v) u) :
    ArmFor flags0 classFile x code maxLocals ret World_1 tables_1 room_1 Calls_1 rest_1 Pre_1 Post := by
  intro l hfl _ _ p e ha hc hk s m args below hf hA hF happ hP
  obtain ⟨hcalls, hrest, hpre⟩ := hP
  obtain ⟨-, -, -, hnamed, -, -, -, hat⟩ := (Spec.applies_iff hf).mp happ
  obtain ⟨hg, hn⟩ := and_e (Cond.before_iff.mp (show (Jvm.Cond.and given_1 narrow_1).before args s = true from hpre))
  obtain ⟨h1, h2⟩ := and_e hg
  obtain ⟨w0, w1, w2, w3, rfl⟩ : ∃ w0 w1 w2 w3 : Value, args = #[w0, w1, w2, w3] := by
    have hs : args.size = 4 := by simpa [Cond.value, given_1] using h1
    obtain ⟨L⟩ := args
    match L, hs with
    | [w0, w1, w2, w3], _ => exact ⟨w0, w1, w2, w3, rfl⟩
  have hw := fun d (hd : d ∈ tables_1) => atoms_spec (ws := Jvm.Cond.code x code maxLocals ret :: tables_1) hat d (List.mem_cons_of_mem _ hd)
  obtain ⟨a0, b0⟩ := and_e h2
  obtain ⟨i0, e0⟩ := is_v a0
  obtain rfl : w0 = (.int i0) := Option.some.inj e0
  obtain ⟨a1, b1⟩ := and_e b0
  obtain ⟨i1, e1⟩ := is_v a1
  obtain rfl : w1 = (.int i1) := Option.some.inj e1
  obtain ⟨a2, b2⟩ := and_e b1
  obtain ⟨i2, e2⟩ := is_v a2
  obtain rfl : w2 = (.int i2) := Option.some.inj e2
  obtain ⟨i3, e3⟩ := is_v b2
  obtain rfl : w3 = (.int i3) := Option.some.inj e3
  obtain ⟨n, o, h1, h2, h3, _, L, rfl, ⟨N, v', H', rfl, -, rfl⟩, hq⟩ := law_met (l := l) (Z := s) (b := s.heap.size) hw i0 i1 i2 i3 s.heap (Rel.nil s.heap) tables_1 p e ha hc hk s m _ below hf ((Spec.applies_iff_loose hf).mp happ).1 ⟨rfl, State.Warmed39.refl s, rfl⟩ trivial
  refine ⟨n, _, h1, h2, h3, hpost _ _ _ _ _ _ ⟨Cond.after_iff.mpr rfl, Cond.after_iff.mpr (eq_i res_at (Term.int_eval (1)) rfl), trivial⟩ ⟨hq.1, hq.2.1, (hq.2.2.sift fun y hy => Or.inr (N y hy)).mono (by decide) (by decide)⟩⟩
theorem main_1_1 : Claimed_1_1 := comes_1 fun _ _ _ _ _ _ h hF => ⟨h.1, hF⟩
theorem main_1_2 : Claimed_1_2 := comes_1 fun _ _ _ _ _ _ h hF => ⟨h.2.1, hF⟩
end Jvm.Pilot.@@N@@
namespace Jvm.Pilot.@@N@@
open Jvm Jvm.ClassFile Sem Op Lib Jvm.Free Jvm.Stand Jvm.Pilot.@@N@@.Jvm.D
/-! MADE BY PROGRAM (witnessworld.py) out of the Statement's table words and the real class files: 10 classes; the members and pool entries that the words name. The judged class is class 1, her method 1. -/
namespace start1
open Jvm.ClassFile
def u (s : String) : CpInfo := .utf8 (stringToUtf16 s)
/-- a pool by its gaps: so many unusable entries, then the entry; so many at the end -/
def gap : Nat → List CpInfo → List CpInfo
  | 0, r => r
  | n + 1, r => .unusable :: gap n r
def poolList (es : List (Nat × CpInfo)) (last : Nat) : List CpInfo := es.foldr (fun e r => gap e.1 (e.2 :: r)) (gap last [])
def pool (es : List (Nat × CpInfo)) (last : Nat) : Array CpInfo := ⟨poolList es last⟩
def fileOf (pool : Array CpInfo) (this : Nat) (attrs : Array Attribute := #[]) (ms : Array MethodInfo := #[]) (fl : Nat := 33) (sup : Nat := 0) (ifs : Array Nat := #[]) (fds : Array FieldInfo := #[]) : ClassFile where
  minorVersion := 0
  majorVersion := 65
  constantPool := pool
  accessFlags := fl
  thisClass := this
  superClass := sup
  interfaces := ifs
  fields := fds
  methods := ms
  attributes := attrs
def plain (name : String) (sup : Option ClassId) : Class where
  name := name
  kind := .ordinary
  loader := none
  accessFlags := 33
  super := sup
  interfaces := #[]
  cf := none
  fields := #[]
  methods := #[]
  instanceTypes := #[]
  staticTypes := #[]
  resolved := #[]
  callSites := []
  init := .initialized
  statics := none
  mirror := none

def pool0 : Array CpInfo := pool [(5, u "<init>"), (0, u "()V"), (1, .class_ 10), (1, u "java/lang/Object")] 113

def k0m0 : Method := { name := "<init>", desc := "()V", sig := { parameters := [], returnType := none }, accessFlags := 1, code := none }
/-- java/lang/Object -/
def k0 : Class := { plain "java/lang/Object" none with
  accessFlags := 33
  interfaces := #[]
  cf := some (fileOf pool0 8 #[] #[{ accessFlags := 1, nameIndex := 5, descriptorIndex := 6, attributes := #[] }] 33 0 #[] #[])
  fields := #[]
  methods := #[k0m0]
  instanceTypes := #[]
  staticTypes := #[]
  resolved := Array.replicate 124 none
  statics := none }

def pool1 : Array CpInfo := pool [(2, .class_ 4), (1, u "java/lang/Object"), (0, u "<init>"), (0, u "()V"), (0, .integer 2147483647), (0, .methodref 9 10), (0, .class_ 11), (0, .nameAndType 12 13), (0, u "java/lang/Math"), (0, u "min"), (0, u "(II)I"), (0, .methodref 9 15), (0, .nameAndType 16 13), (0, u "max"), (0, .methodref 18 19), (0, .class_ 20), (0, .nameAndType 21 22), (0, u "com/example/stemcycle/stemcycle/EdgeLengths"), (0, u "reverse"), (0, u "([I[III)V"), (0, .methodref 24 25), (0, .class_ 26), (0, .nameAndType 27 28), (0, u "com/example/stemcycle/stemcycle/EdgeLengthsReverse209PinLaw"), (0, u "cityOk"), (0, u "([IIIII)Z"), (0, .methodref 24 30), (0, .nameAndType 31 28), (0, u "edgeOk"), (2, u "law"), (0, u "(IIII)Z")] 5

def k1m0 : Method := { name := "<init>", desc := "()V", sig := { parameters := [], returnType := none }, accessFlags := 1, code := none }
def k1c1 : Code := { maxStack := 5, maxLocals := 10, code := code, exceptionTable := #[], attributes := #[] }
def k1m1 : Method := { name := "law", desc := "(IIII)Z", sig := { parameters := [.int, .int, .int, .int], returnType := some .boolean }, accessFlags := 9, code := some k1c1 }
def k1c2 : Code := { maxStack := 3, maxLocals := 6, code := method_3_code, exceptionTable := #[], attributes := #[] }
def k1m2 : Method := { name := "cityOk", desc := "([IIIII)Z", sig := { parameters := [(.array .int), .int, .int, .int, .int], returnType := some .boolean }, accessFlags := 10, code := some k1c2 }
def k1c3 : Code := { maxStack := 3, maxLocals := 6, code := method_4_code, exceptionTable := #[], attributes := #[] }
def k1m3 : Method := { name := "edgeOk", desc := "([IIIII)Z", sig := { parameters := [(.array .int), .int, .int, .int, .int], returnType := some .boolean }, accessFlags := 10, code := some k1c3 }
/-- com/example/stemcycle/stemcycle/EdgeLengthsReverse209PinLaw -/
def k1 : Class := { plain "com/example/stemcycle/stemcycle/EdgeLengthsReverse209PinLaw" (some 0) with
  accessFlags := 49
  interfaces := #[]
  cf := some (fileOf pool1 24 #[] #[{ accessFlags := 1, nameIndex := 5, descriptorIndex := 6, attributes := #[] }, { accessFlags := 9, nameIndex := 34, descriptorIndex := 35, attributes := #[] }, { accessFlags := 10, nameIndex := 27, descriptorIndex := 28, attributes := #[] }, { accessFlags := 10, nameIndex := 31, descriptorIndex := 28, attributes := #[] }] 49 2 #[] #[])
  fields := #[]
  methods := #[k1m0, k1m1, k1m2, k1m3]
  instanceTypes := #[]
  staticTypes := #[]
  resolved := Array.replicate 41 none
  statics := none }

def pool2 : Array CpInfo := pool [(1, .class_ 2), (0, u "java/lang/Math"), (1, .class_ 6), (1, u "java/lang/Object"), (0, u "<init>"), (0, u "()V"), (89, .class_ 100), (1, u "java/lang/Math$RandomNumberGeneratorHolder"), (71, u "negativeZeroFloatBits"), (0, u "J"), (2, u "negativeZeroDoubleBits"), (21, u "max"), (2, u "min"), (43, u "$assertionsDisabled"), (0, u "Z"), (88, u "(II)I"), (2, u "twoToTheDoubleScaleDown"), (0, u "D"), (4, u "twoToTheDoubleScaleUp"), (9, u "E"), (3, u "PI"), (2, u "TAU"), (2, u "DEGREES_TO_RADIANS"), (0, u "RADIANS_TO_DEGREES")] 94

def k2m0 : Method := { name := "<init>", desc := "()V", sig := { parameters := [], returnType := none }, accessFlags := 2, code := none }
def k2c1 : Code := { maxStack := 2, maxLocals := 2, code := jdk_29_method_65_code, exceptionTable := #[], attributes := #[] }
def k2m1 : Method := { name := "max", desc := "(II)I", sig := { parameters := [.int, .int], returnType := some .int }, accessFlags := 9, code := some k2c1 }
def k2c2 : Code := { maxStack := 2, maxLocals := 2, code := jdk_29_method_69_code, exceptionTable := #[], attributes := #[] }
def k2m2 : Method := { name := "min", desc := "(II)I", sig := { parameters := [.int, .int], returnType := some .int }, accessFlags := 9, code := some k2c2 }
/-- java/lang/Math -/
def k2 : Class := { plain "java/lang/Math" (some 0) with
  accessFlags := 49
  interfaces := #[]
  cf := some (fileOf pool2 1 #[.nestMembers #[98]] #[{ accessFlags := 2, nameIndex := 7, descriptorIndex := 8, attributes := #[] }, { accessFlags := 9, nameIndex := 198, descriptorIndex := 335, attributes := #[] }, { accessFlags := 9, nameIndex := 201, descriptorIndex := 335, attributes := #[] }] 49 4 #[] #[{ accessFlags := 25, nameIndex := 354, descriptorIndex := 339, attributes := #[] }, { accessFlags := 25, nameIndex := 358, descriptorIndex := 339, attributes := #[] }, { accessFlags := 25, nameIndex := 361, descriptorIndex := 339, attributes := #[] }, { accessFlags := 26, nameIndex := 364, descriptorIndex := 339, attributes := #[] }, { accessFlags := 26, nameIndex := 365, descriptorIndex := 339, attributes := #[] }, { accessFlags := 26, nameIndex := 172, descriptorIndex := 173, attributes := #[] }, { accessFlags := 26, nameIndex := 176, descriptorIndex := 173, attributes := #[] }, { accessFlags := 8, nameIndex := 344, descriptorIndex := 339, attributes := #[] }, { accessFlags := 8, nameIndex := 338, descriptorIndex := 339, attributes := #[] }, { accessFlags := 4120, nameIndex := 245, descriptorIndex := 246, attributes := #[] }])
  fields := #[{ name := "E", type := .double, accessFlags := 25, slot := 0, constantValue := 0 }, { name := "PI", type := .double, accessFlags := 25, slot := 1, constantValue := 0 }, { name := "TAU", type := .double, accessFlags := 25, slot := 2, constantValue := 0 }, { name := "DEGREES_TO_RADIANS", type := .double, accessFlags := 26, slot := 3, constantValue := 0 }, { name := "RADIANS_TO_DEGREES", type := .double, accessFlags := 26, slot := 4, constantValue := 0 }, { name := "negativeZeroFloatBits", type := .long, accessFlags := 26, slot := 5, constantValue := 0 }, { name := "negativeZeroDoubleBits", type := .long, accessFlags := 26, slot := 6, constantValue := 0 }, { name := "twoToTheDoubleScaleUp", type := .double, accessFlags := 8, slot := 7, constantValue := 0 }, { name := "twoToTheDoubleScaleDown", type := .double, accessFlags := 8, slot := 8, constantValue := 0 }, { name := "$assertionsDisabled", type := .boolean, accessFlags := 4120, slot := 9, constantValue := 0 }]
  methods := #[k2m0, k2m1, k2m2]
  instanceTypes := #[]
  staticTypes := #[.double, .double, .double, .double, .double, .long, .long, .double, .double, .boolean]
  resolved := Array.replicate 460 none
  statics := none }

def pool3 : Array CpInfo := pool [(2, .class_ 4), (1, u "java/lang/Object"), (0, u "<init>"), (0, u "()V"), (6, .class_ 14), (0, u "com/example/stemcycle/stemcycle/EdgeLengths"), (7, u "reverse"), (0, u "([I[III)V")] 3

def k3m0 : Method := { name := "<init>", desc := "()V", sig := { parameters := [], returnType := none }, accessFlags := 2, code := none }
def k3c1 : Code := { maxStack := 4, maxLocals := 7, code := prog_8_method_3_code, exceptionTable := #[], attributes := #[] }
def k3m1 : Method := { name := "reverse", desc := "([I[III)V", sig := { parameters := [(.array .int), (.array .int), .int, .int], returnType := none }, accessFlags := 8, code := some k3c1 }
/-- com/example/stemcycle/stemcycle/EdgeLengths -/
def k3 : Class := { plain "com/example/stemcycle/stemcycle/EdgeLengths" (some 0) with
  accessFlags := 48
  interfaces := #[]
  cf := some (fileOf pool3 13 #[] #[{ accessFlags := 2, nameIndex := 5, descriptorIndex := 6, attributes := #[] }, { accessFlags := 8, nameIndex := 22, descriptorIndex := 23, attributes := #[] }] 48 2 #[] #[])
  fields := #[]
  methods := #[k3m0, k3m1]
  instanceTypes := #[]
  staticTypes := #[]
  resolved := Array.replicate 27 none
  statics := none }

def pool4 : Array CpInfo := pool [(1, u "java/lang/Cloneable"), (0, .class_ 1), (0, u "java/lang/Object"), (0, .class_ 3)] 3

/-- java/lang/Cloneable -/
def k4 : Class := { plain "java/lang/Cloneable" (some 0) with
  accessFlags := 1537
  interfaces := #[]
  cf := some (fileOf pool4 2 #[] #[] 1537 4 #[] #[])
  fields := #[]
  methods := #[]
  instanceTypes := #[]
  staticTypes := #[]
  resolved := Array.replicate 8 none
  statics := none }

def pool5 : Array CpInfo := pool [(1, u "java/io/Serializable"), (0, .class_ 1), (0, u "java/lang/Object"), (0, .class_ 3)] 3

/-- java/io/Serializable -/
def k5 : Class := { plain "java/io/Serializable" (some 0) with
  accessFlags := 1537
  interfaces := #[]
  cf := some (fileOf pool5 2 #[] #[] 1537 4 #[] #[])
  fields := #[]
  methods := #[]
  instanceTypes := #[]
  staticTypes := #[]
  resolved := Array.replicate 8 none
  statics := none }

/-- the primitive byte -/
def k6 : Class := { plain "byte" none with kind := .primitive 'B', accessFlags := 0x411 }
/-- [B -/
def k7 : Class := { plain "[B" (some 0) with kind := .array 6 .byte, interfaces := #[4, 5], accessFlags := 1041 }

/-- the primitive int -/
def k8 : Class := { plain "int" none with kind := .primitive 'I', accessFlags := 0x411 }
/-- [I -/
def k9 : Class := { plain "[I" (some 0) with kind := .array 8 .int, interfaces := #[4, 5], accessFlags := 1041 }

def heap : Heap := #[]
def classes : Array Class := #[k0, k1, k2, k3, k4, k5, k6, k7, k8, k9]
def interned : List (Array UInt16 × Addr) := []
def slotsUsed : Nat := 0
def theMethod : MethodId := ⟨1, 1⟩
def args0 : Array Value := #[.int 5, .int 2, .int 9, .int 1]
def aboutOver (below : List Frame) : State where
  vm := { classes := classes, interned := interned.toArray }
  heap := heap
  slotsUsed := slotsUsed
  threads := #[{ frames := .invoking theMethod args0 :: below }]
def below0 : List Frame := [.native { method := ⟨0, 0⟩, args := #[] }]
def about1 : State := aboutOver below0
def p0 : Program := .bare "" "" ""
def e0 : Env := launch0.env 0 0 0
theorem w_frames : about1.frames = Frame.invoking theMethod args0 :: below0 := rfl
set_option maxRecDepth 65536 in
theorem w_args : argsFit about1.vm theMethod args0 = true := by decide +kernel
set_option maxRecDepth 65536 in
theorem w_heap : heapFits about1 = true := by decide +kernel
set_option maxRecDepth 65536 in
theorem w_runnable : about1.curStatus? = some .runnable := by decide +kernel
set_option maxRecDepth 65536 in
theorem w_alone : about1.alone = true := by decide +kernel
set_option maxRecDepth 65536 in
theorem w_named : about1.methodNamed? x = some theMethod := by decide +kernel
set_option maxRecDepth 65536 in
theorem w_hears : about1.hears theMethod below0 = true := by decide +kernel
set_option maxRecDepth 65536 in
theorem w_ripe : about1.ripe theMethod args0 below0 = true := by decide +kernel
theorem w_running : about1.status = .running := rfl
set_option maxRecDepth 65536 in
theorem w_room : about1.hasRoom e0.platform room_1 = true :=
  launch0.hasRoom_least _ room_1 (by decide +kernel) (by decide +kernel) (by decide +kernel) (by decide +kernel) (by decide +kernel) (by decide +kernel)
theorem allAtoms_all (ts : List Jvm.Cond) (a : Array Jvm.Value) (st : Jvm.State) : (allAtoms ts).before a st = ts.all (fun c => c.before a st) := by
  induction ts with
  | nil => rfl
  | cons c t ih =>
    show (Jvm.Cond.and c (allAtoms t)).before a st = _
    rw [Jvm.Cond.before_and, ih, List.all_cons]
def words1 : List Jvm.Cond := Jvm.Cond.code x code maxLocals ret :: tables_1
/-- a 'code' word, met by the world's own term for the bytes: nothing is compared byte by byte -/
theorem code_word {y : MethodName} {bytes : ByteArray} {mx : Nat} {rt : Option FieldType} {a : Array Value} {s : State} {m : MethodId} {meth : Method} {c : Code} (h1 : s.methodNamed? y = some m) (h2 : s.vm.method? m = some meth) (h3 : meth.code = some c) (h4 : c.code = bytes)
    (h5 : (c.maxLocals == mx && c.exceptionTable.isEmpty && decide (c.maxStack ≤ mostOperands) && decide (meth.sig.returnType = rt) && !meth.locks && decide (parseMethodDescriptor y.desc = some meth.sig)) = true) : (Jvm.Cond.code y bytes mx rt).before a s = true := by
  simp only [Bool.and_eq_true, beq_iff_eq, Bool.not_eq_true', decide_eq_true_eq] at h5
  obtain ⟨⟨⟨⟨⟨g1, g2⟩, g3⟩, g4⟩, g5⟩, g6⟩ := h5
  simp [Cond.before, Cond.holds, Cond.value, h1, h2, h3, h4, g1, g2, g3, g4, g5, g6]
def isCode : Jvm.Cond → Bool
  | .code _ _ _ _ => true
  | _ => false
theorem all_split {L : List Jvm.Cond} {P : Jvm.Cond → Bool} (h1 : L.all (fun c => isCode c || P c) = true) (h2 : ∀ c ∈ L.filter isCode, P c = true) : L.all P = true := by
  refine List.all_eq_true.mpr fun c hc => ?_
  have h := List.all_eq_true.mp h1 c hc
  rcases Bool.eq_false_or_eq_true (isCode c) with hi | hi
  · exact h2 c (List.mem_filter.mpr ⟨hc, hi⟩)
  · simpa [hi] using h
set_option maxRecDepth 65536 in
theorem w_c0 : (Jvm.Cond.code x code maxLocals ret).before args0 about1 = true := code_word (m := ⟨1, 1⟩) (meth := k1m1) (c := k1c1) (by decide +kernel) rfl rfl rfl (by decide +kernel)
set_option maxRecDepth 65536 in
theorem w_c1 : (Jvm.Cond.code ({ cls := "java/lang/Math", name := "min", desc := "(II)I" } : Jvm.MethodName) jdk_29_method_69_code (2 : Nat) (Option.some Jvm.ClassFile.FieldType.int)).before args0 about1 = true := code_word (m := ⟨2, 2⟩) (meth := k2m2) (c := k2c2) (by decide +kernel) rfl rfl rfl (by decide +kernel)
set_option maxRecDepth 65536 in
theorem w_c2 : (Jvm.Cond.code ({ cls := "java/lang/Math", name := "max", desc := "(II)I" } : Jvm.MethodName) jdk_29_method_65_code (2 : Nat) (Option.some Jvm.ClassFile.FieldType.int)).before args0 about1 = true := code_word (m := ⟨2, 1⟩) (meth := k2m1) (c := k2c1) (by decide +kernel) rfl rfl rfl (by decide +kernel)
set_option maxRecDepth 65536 in
theorem w_c3 : (Jvm.Cond.code ({ cls := "com/example/stemcycle/stemcycle/EdgeLengths", name := "reverse", desc := "([I[III)V" } : Jvm.MethodName) prog_8_method_3_code (7 : Nat) (Option.none : Option Jvm.ClassFile.FieldType)).before args0 about1 = true := code_word (m := ⟨3, 1⟩) (meth := k3m1) (c := k3c1) (by decide +kernel) rfl rfl rfl (by decide +kernel)
set_option maxRecDepth 65536 in
theorem w_c4 : (Jvm.Cond.code ({ cls := "com/example/stemcycle/stemcycle/EdgeLengthsReverse209PinLaw", name := "cityOk", desc := "([IIIII)Z" } : Jvm.MethodName) method_3_code (6 : Nat) (Option.some Jvm.ClassFile.FieldType.boolean)).before args0 about1 = true := code_word (m := ⟨1, 2⟩) (meth := k1m2) (c := k1c2) (by decide +kernel) rfl rfl rfl (by decide +kernel)
set_option maxRecDepth 65536 in
theorem w_c5 : (Jvm.Cond.code ({ cls := "com/example/stemcycle/stemcycle/EdgeLengthsReverse209PinLaw", name := "edgeOk", desc := "([IIIII)Z" } : Jvm.MethodName) method_4_code (6 : Nat) (Option.some Jvm.ClassFile.FieldType.boolean)).before args0 about1 = true := code_word (m := ⟨1, 3⟩) (meth := k1m3) (c := k1c3) (by decide +kernel) rfl rfl rfl (by decide +kernel)
def codes1 : List Jvm.Cond := [Jvm.Cond.code x code maxLocals ret, Jvm.Cond.code ({ cls := "java/lang/Math", name := "min", desc := "(II)I" } : Jvm.MethodName) jdk_29_method_69_code (2 : Nat) (Option.some Jvm.ClassFile.FieldType.int), Jvm.Cond.code ({ cls := "java/lang/Math", name := "max", desc := "(II)I" } : Jvm.MethodName) jdk_29_method_65_code (2 : Nat) (Option.some Jvm.ClassFile.FieldType.int), Jvm.Cond.code ({ cls := "com/example/stemcycle/stemcycle/EdgeLengths", name := "reverse", desc := "([I[III)V" } : Jvm.MethodName) prog_8_method_3_code (7 : Nat) (Option.none : Option Jvm.ClassFile.FieldType), Jvm.Cond.code ({ cls := "com/example/stemcycle/stemcycle/EdgeLengthsReverse209PinLaw", name := "cityOk", desc := "([IIIII)Z" } : Jvm.MethodName) method_3_code (6 : Nat) (Option.some Jvm.ClassFile.FieldType.boolean), Jvm.Cond.code ({ cls := "com/example/stemcycle/stemcycle/EdgeLengthsReverse209PinLaw", name := "edgeOk", desc := "([IIIII)Z" } : Jvm.MethodName) method_4_code (6 : Nat) (Option.some Jvm.ClassFile.FieldType.boolean)]
set_option maxRecDepth 65536 in
theorem codes_eq : words1.filter isCode = codes1 := rfl
theorem w_codes : ∀ c ∈ words1.filter isCode, c.before args0 about1 = true := by
  rw [codes_eq]
  intro c hc
  simp only [codes1, List.mem_cons, List.not_mem_nil, or_false] at hc
  rcases hc with rfl | rfl | rfl | rfl | rfl | rfl
  · exact w_c0
  · exact w_c1
  · exact w_c2
  · exact w_c3
  · exact w_c4
  · exact w_c5
set_option maxRecDepth 65536 in
theorem w_t1 : words1.all (fun c => isCode c || c.before args0 about1) = true := by decide +kernel
theorem w_tables : (allAtoms (Jvm.Cond.code x code maxLocals ret :: tables_1)).before args0 about1 = true := by
  rw [allAtoms_all]
  show words1.all (fun c => c.before args0 about1) = true
  refine all_split ?_ w_codes
  rw [w_t1]
set_option maxRecDepth 65536 in
theorem w_case : (Jvm.Cond.and given_1 narrow_1).before args0 about1 = true := by decide +kernel
theorem w_applies : (headSpec (Jvm.Cond.code x code maxLocals ret :: tables_1) room_1).applies x e0.platform about1 = true :=
  (Spec.applies_iff w_frames).mpr ⟨w_running, w_runnable, w_alone, w_named, w_hears, w_ripe, w_room, w_tables⟩
theorem atStart : AtStart classFile x code maxLocals ret World_1 tables_1 room_1 Calls_1 rest_1 Pre_1 launch0 p0 e0 about1 theMethod args0 below0 :=
  ⟨lists_1, trivial, launch0.admits_env _ _ _, launch0.least_env, fairChoices_fair.cas, fairChoices_fair.clock, w_frames, w_args, w_heap, w_applies, trivial, trivial, w_case⟩
end start1
theorem witness_1 : WitnessClaimed_1 := ⟨start1.p0, start1.e0, start1.about1, start1.theMethod, start1.args0, start1.below0, start1.atStart⟩
end Jvm.Pilot.@@N@@
