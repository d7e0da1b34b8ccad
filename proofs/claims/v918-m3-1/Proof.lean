import JvmDerived
import JvmDerived.Pilot.@@N@@Statement
import JvmDerived.Pilot.@@N@@Code
set_option linter.unusedVariables false
set_option linter.unusedSimpArgs false
namespace Jvm.GoKit
open Sem ClassFile Op Lib Jvm.Stand Jvm.Free Jvm.LawKit Jvm.RoadKit
/-! The walk as a backward predicate over a small abstract machine: refs count the cells made since the law began. -/
abbrev GCell := (String × List (String × String × Value)) ⊕ (FieldType × List Value)
abbrev ob (C : String) (fs : List (String × String × Value)) : GCell := Sum.inl (C, fs)
abbrev ar (t : FieldType) (vs : List Value) : GCell := Sum.inr (t, vs)
def upV (b : Nat) : Value → Value
  | .ref k => .ref (b + k)
  | .int x => .int x
  | .long x => .long x
  | .float x => .float x
  | .double x => .double x
  | .null => .null
  | .retAddr x => .retAddr x
def upS (b : Nat) : Slot → Slot
  | .val v => .val (upV b v)
  | .unset => .unset
  | .second => .second
theorem cat_up (b : Nat) (v : Value) : (upV b v).category = v.category := by cases v <;> rfl
theorem isRef_up (b : Nat) (v : Value) : (upV b v).isRef = v.isRef := by cases v <;> rfl
def CellOk (Z : State) (a0 : Array Value) (b : Nat) (h : Heap) (a : Addr) : GCell → Prop
  | Sum.inl (C, fs) => Exa Z h a C ∧ (∀ f ∈ fs, Fld Z h a C f.1 f.2.1 (upV b f.2.2) ∧ Laid Z a0 C C f.1 f.2.1 ∧ ∃ t, parseFieldDescriptor f.2.1 = some t) ∧ (fs.map (·.1)).Nodup
  | Sum.inr (ty, vs) => ∃ c : Cell, Arr Z h a c ty ∧ c.slots = (vs.map (upV b)).toArray
def Rel (Z : State) (a0 : Array Value) (b : Nat) (H : List GCell) (h : Heap) : Prop :=
  h.size = b + H.length ∧ ∀ (i : Nat) (mc : GCell), H[i]? = some mc → CellOk Z a0 b h (b + i) mc
section Rels
variable {Z : State} {a0 : Array Value} {b : Nat} {H : List GCell} {h h' : Heap} {a a' : Addr} {sl : Nat} {v : Value} {mc : GCell}
theorem CellOk.ext (E : Ext h h') (K : CellOk Z a0 b h a mc) : CellOk Z a0 b h' a mc := by
  rcases mc with ⟨C, fs⟩ | ⟨ty, vs⟩
  · obtain ⟨k1, k2, k3⟩ := K
    exact ⟨k1.ext E, fun f hf => ⟨(k2 f hf).1.ext E, (k2 f hf).2⟩, k3⟩
  · obtain ⟨c, A, e⟩ := K
    exact ⟨c, A.ext E, e⟩
theorem CellOk.other (W : Wr h h' a sl v) (ne : a' ≠ a) (K : CellOk Z a0 b h a' mc) : CellOk Z a0 b h' a' mc := by
  rcases mc with ⟨C, fs⟩ | ⟨ty, vs⟩
  · obtain ⟨k1, k2, k3⟩ := K
    exact ⟨k1.wr W, fun f hf => ⟨(k2 f hf).1.other W (Or.inl ne), (k2 f hf).2⟩, k3⟩
  · obtain ⟨c, A, e⟩ := K
    exact ⟨c, A.other W ne, e⟩
theorem Rel.nil (h : Heap) : Rel Z a0 h.size [] h := ⟨rfl, fun (i : Nat) mc q => by simp at q⟩
theorem Rel.push (RR : Rel Z a0 b H h) (E : Ext h h') (hs : h'.size = h.size + 1) (K : CellOk Z a0 b h' (b + H.length) mc) : Rel Z a0 b (H ++ [mc]) h' := by
  refine ⟨by rw [hs, RR.1]; simp; omega, fun (i : Nat) mc' q => ?_⟩
  rw [List.getElem?_append] at q
  split at q
  · exact (RR.2 i mc' q).ext E
  · rename_i hi
    have e : i = H.length := by
      by_cases e : i - H.length = 0
      · omega
      · rw [List.getElem?_eq_none (by simp; omega)] at q; cases q
    subst e
    simp at q
    exact q ▸ K
theorem Rel.wr (RR : Rel Z a0 b H h) {i : Nat} (W : Wr h h' (b + i) sl v) (K : CellOk Z a0 b h' (b + i) mc) : Rel Z a0 b (H.set i mc) h' := by
  refine ⟨by rw [W.size, RR.1]; simp, fun (j : Nat) mc' q => ?_⟩
  rw [List.getElem?_set] at q
  split at q
  · rename_i e
    subst e
    split at q
    · cases q; exact K
    · cases q
  · rename_i e
    exact (RR.2 j mc' q).other W (fun z => e (Nat.add_left_cancel z).symm)
theorem mem_setF {n d : String} {o : Value} : ∀ (fs : List (String × String × Value)) (j : Nat), (fs.map (·.1)).Nodup → fs[j]? = some (n, d, o) → ∀ f ∈ fs.set j (n, d, v), f = (n, d, v) ∨ (f ∈ fs ∧ f.1 ≠ n)
  | [], _, _, q, _, _ => by simp at q
  | g :: gs, 0, nd, q, f, hf => by
    simp only [List.getElem?_cons_zero, Option.some.injEq] at q
    subst q
    simp only [List.map_cons, List.nodup_cons] at nd
    simp only [List.set_cons_zero, List.mem_cons] at hf
    rcases hf with rfl | hf
    · exact Or.inl rfl
    · refine Or.inr ⟨List.mem_cons_of_mem _ hf, fun e => nd.1 ?_⟩
      exact List.mem_map.mpr ⟨f, hf, e⟩
  | g :: gs, j + 1, nd, q, f, hf => by
    simp only [List.getElem?_cons_succ] at q
    simp only [List.map_cons, List.nodup_cons] at nd
    simp only [List.set_cons_succ, List.mem_cons] at hf
    rcases hf with rfl | hf
    · refine Or.inr ⟨List.mem_cons_self .., fun e => nd.1 ?_⟩
      exact List.mem_map.mpr ⟨_, List.mem_of_getElem? q, e.symm⟩
    · rcases mem_setF gs j nd.2 q f hf with e | ⟨e1, e2⟩
      · exact Or.inl e
      · exact Or.inr ⟨List.mem_cons_of_mem _ e1, e2⟩
theorem map_setF {n d : String} {o : Value} : ∀ (fs : List (String × String × Value)) (j : Nat), fs[j]? = some (n, d, o) → (fs.set j (n, d, v)).map (·.1) = fs.map (·.1)
  | [], _, q => by simp at q
  | g :: gs, 0, q => by
    simp only [List.getElem?_cons_zero, Option.some.injEq] at q
    subst q; rfl
  | g :: gs, j + 1, q => by
    simp only [List.getElem?_cons_succ] at q
    simp only [List.set_cons_succ, List.map_cons, map_setF gs j q]
theorem CellOk.fset {C n d : String} {fs : List (String × String × Value)} {j : Nat} {o : Value} (K : CellOk Z a0 b h a (ob C fs)) (q : fs[j]? = some (n, d, o)) (W : Wr h h' a (Jvm.RoadKit.slotOf Z C n d) (upV b v)) : CellOk Z a0 b h' a (ob C (fs.set j (n, d, v))) := by
  obtain ⟨k1, k2, k3⟩ := K
  have m0 := List.mem_of_getElem? q
  obtain ⟨F, L, t, ht⟩ := k2 _ m0
  refine ⟨k1.wr W, fun f hf => ?_, by rw [map_setF fs j q]; exact k3⟩
  rcases mem_setF fs j k3 q f hf with rfl | ⟨e1, e2⟩
  · exact ⟨F.same W, L, t, ht⟩
  · obtain ⟨F', L', t', ht'⟩ := k2 _ e1
    exact ⟨F'.other W (Or.inr (slot_ne L' L e2 ht' ht)), L', t', ht'⟩
end Rels
theorem ne_oa {H : List GCell} {i j : Nat} {C : String} {fs : List (String × String × Value)} {t : FieldType} {vs : List Value} (h1 : H[i]? = some (ob C fs)) (h2 : H[j]? = some (ar t vs)) : i ≠ j := fun e => by subst e; rw [h1] at h2; cases h2
theorem get_ne {H : List GCell} {i j : Nat} {m m' : GCell} (h : H[j]? = some m) (ne : i ≠ j) : (H.set i m')[j]? = some m := by rw [List.getElem?_set_ne ne]; exact h
theorem get_eq {H : List GCell} {i : Nat} {m m' : GCell} (h : H[i]? = some m) : (H.set i m')[i]? = some m' := by
  have := (List.getElem?_eq_some_iff.mp h).1
  simp [this]
theorem get_app {H H2 : List GCell} {i : Nat} {m : GCell} (h : H[i]? = some m) : (H ++ H2)[i]? = some m := by
  have := (List.getElem?_eq_some_iff.mp h).1
  rw [List.getElem?_append_left this]; exact h
theorem get_last {H : List GCell} {m : GCell} : (H ++ [m])[H.length]? = some m := by simp
theorem set_same {α : Type} {l : List α} {k : Nat} {v : α} (h : l[k]? = some v) : l.set k v = l := by
  apply List.ext_getElem?
  intro j
  rw [List.getElem?_set]
  split
  · rename_i e; subst e
    obtain ⟨h1, h2⟩ := List.getElem?_eq_some_iff.mp h
    rw [if_pos h1, h]
  · rfl
def Dc (bytes : ByteArray) (pc : Nat) (i : Instr) (n nx : Nat) : Prop := decode bytes pc = .ok (i, n) ∧ pc + n = nx
theorem wd {W : List Jvm.Cond} {d : Jvm.Cond} (k : Nat) (h : W[k]? = some d) : d ∈ W := List.mem_of_getElem? h
def QQ (Z : State) (a0 : Array Value) (b : Nat) (Post : Option Value → List GCell → Prop) (v : Option Value) (h : Heap) (LL : List Loc) : Prop :=
  Fr b LL ∧ ∃ v' H', v = Option.map (upV b) v' ∧ Rel Z a0 b H' h ∧ Post v' H'
/-- a method's contract over the abstract machine -/
def Met (l : Launch) (Z : State) (a0 : Array Value) (b : Nat) (y : MethodName) (bytes : ByteArray) (maxL : Nat) (ret : Option FieldType) (rm : Room) (as : List Value) (H : List GCell) (Post : Option Value → List GCell → Prop) : Prop :=
  ∀ h, Rel Z a0 b H h → ∀ ws, MetFree l y (head1 (Jvm.Cond.code y bytes maxL ret :: ws) rm) (fun a U => a = (as.map (upV b)).toArray ∧ Z.Warmed39 U.vm ∧ U.heap = h) (fun _ _ _ _ _ => True)
    (fun _ U o U' => ∃ v LL, o = .returned v ∧ QQ Z a0 b Post v U'.heap LL ∧ FrameEnd U o U' LL rm.cells rm.slots)
/-- where a body is walked -/
def Cx (p : Program) (l : Launch) (e : Env) (R : Room) (s : State) (m : MethodId) (args : Array Value) (below : List Frame) (meth : Method) (c : Code) (Z : State) (a0 : Array Value) (W : List Jvm.Cond) (b : Nat) (y : MethodName) (bytes : ByteArray) (nL : Nat) (ret : Option FieldType) (Post : Option Value → List GCell → Prop) : Prop :=
  p.tables.exec = Jvm.exec ∧ Z.Warmed39 s.vm ∧ s.vm.findClass y.cls = some m.cls ∧ c.code = bytes ∧ c.maxLocals = nL ∧ meth.sig.returnType = ret ∧ meth.locks = false ∧ meth.name = y.name ∧ (∀ d ∈ W, d.before a0 Z = true)
section Walk
variable {p : Program} {l : Launch} {e : Env} {R : Room} {s : State} {m : MethodId} {args : Array Value} {below : List Frame} {meth : Method} {c : Code} {Z : State} {a0 : Array Value} {W : List Jvm.Cond} {b : Nat} {y : MethodName} {bytes : ByteArray} {nL : Nat} {ret : Option FieldType} {Post : Option Value → List GCell → Prop}
theorem Cx.exec (C : Cx p l e R s m args below meth c Z a0 W b y bytes nL ret Post) : p.tables.exec = Jvm.exec := C.1
theorem Cx.warm (C : Cx p l e R s m args below meth c Z a0 W b y bytes nL ret Post) : Z.Warmed39 s.vm := C.2.1
theorem Cx.own (C : Cx p l e R s m args below meth c Z a0 W b y bytes nL ret Post) : s.vm.findClass y.cls = some m.cls := C.2.2.1
theorem Cx.bys (C : Cx p l e R s m args below meth c Z a0 W b y bytes nL ret Post) : c.code = bytes := C.2.2.2.1
theorem Cx.ml (C : Cx p l e R s m args below meth c Z a0 W b y bytes nL ret Post) : c.maxLocals = nL := C.2.2.2.2.1
theorem Cx.rets (C : Cx p l e R s m args below meth c Z a0 W b y bytes nL ret Post) : meth.sig.returnType = ret := C.2.2.2.2.2.1
theorem Cx.nolock (C : Cx p l e R s m args below meth c Z a0 W b y bytes nL ret Post) : meth.locks = false := C.2.2.2.2.2.2.1
theorem Cx.named (C : Cx p l e R s m args below meth c Z a0 W b y bytes nL ret Post) : meth.name = y.name := C.2.2.2.2.2.2.2.1
theorem Cx.hw (C : Cx p l e R s m args below meth c Z a0 W b y bytes nL ret Post) : ∀ d ∈ W, d.before a0 Z = true := C.2.2.2.2.2.2.2.2
abbrev frm (b : Nat) (m : MethodId) (pc : Nat) (L : List Slot) (S : List Value) : JFrame := mkF m pc (L.map (upS b)).toArray (S.map (upV b))
def Ends (p : Program) (e : Env) (s : State) (R : Room) (b : Nat) (Z : State) (a0 : Array Value) (Post : Option Value → List GCell → Prop) (below : List Frame) (A : State) : Prop :=
  ∃ s₂ o, Steps p.tables e below A s₂ ∧ s₂.status = .running ∧ Ended s₂ below o ∧ ∃ v LL, o = .returned v ∧ QQ Z a0 b Post v s₂.heap LL ∧ FrameEnd s o s₂ LL R.cells R.slots
/-- from here the body returns, and Post holds of what it returns and of the heap -/
def Go (C : Cx p l e R s m args below meth c Z a0 W b y bytes nL ret Post) (pc : Nat) (L : List Slot) (S : List Value) (H : List GCell) (cells slots : Nat) : Prop :=
  ∀ T locs, Stand p l e R s m args below meth c T locs cells slots → Fr b locs → Rel Z a0 b H T.heap → Ends p e s R b Z a0 Post below (T.setTop (frm b m pc L S))
variable {C : Cx p l e R s m args below meth c Z a0 W b y bytes nL ret Post} {pc nx tg : Nat} {L L' : List Slot} {S S' : List Value} {H H' : List GCell} {cells slots : Nat}
theorem Ends.back {A B : State} (st : ∀ t, Steps p.tables e below B t → Steps p.tables e below A t) (h : Ends p e s R b Z a0 Post below B) : Ends p e s R b Z a0 Post below A := by
  obtain ⟨s₂, o, hs, hr⟩ := h
  exact ⟨s₂, o, st _ hs, hr⟩
theorem Go.more {cells' slots' : Nat} (h : Go C pc L S H cells' slots') (hc : cells ≤ cells') (hs : slots ≤ slots') : Go C pc L S H cells slots :=
  fun T locs X N RR => h T locs (X.more hc hs) N RR
theorem go_pure (st : ∀ (T : State) locs cells slots, Stand p l e R s m args below meth c T locs cells slots → ∀ t, Steps p.tables e below (T.setTop (frm b m nx L' S')) t → Steps p.tables e below (T.setTop (frm b m pc L S)) t) (h : Go C nx L' S' H cells slots) : Go C pc L S H cells slots :=
  fun T locs X N RR => (h T locs X N RR).back (st T locs _ _ X)
/-- a boolean reckoned by branches: the ways come together at pc' -/
theorem go_cut {pc' : Nat} {P : Int32 → Prop} (h1 : (∀ mb, P mb → Go C pc' L (.int mb :: S) H cells slots) → Go C pc L S H cells slots) (h2 : ∀ mb, P mb → Go C pc' L (.int mb :: S) H cells slots) : Go C pc L S H cells slots := h1 h2
theorem getL {k : Nat} {o : Slot} (h : L[k]? = some o) : (L.map (upS b)).toArray[k]? = some (upS b o) := by simp [h]
theorem go_iload {k : Nat} {x : Int32} (hd : Dc bytes pc (.iload k) 2 nx) (hl : L[k]? = some (.val (.int x))) (h : Go C nx L (.int x :: S) H cells slots) : Go C pc L S H cells slots :=
  go_pure (fun T _ _ _ X t k => by obtain ⟨hd, rfl⟩ := hd; exact XS.iload X.here C.exec rfl (hb C.bys hd) (getL hl) k) h
theorem go_iloadN {k : Fin 4} {x : Int32} (hd : Dc bytes pc (.iload_n k) 1 nx) (hl : L[k.val]? = some (.val (.int x))) (h : Go C nx L (.int x :: S) H cells slots) : Go C pc L S H cells slots :=
  go_pure (fun T _ _ _ X t k => by obtain ⟨hd, rfl⟩ := hd; exact XS.iloadN X.here C.exec rfl (hb C.bys hd) (getL hl) k) h
theorem go_lload {k : Nat} {x : Int64} (hd : Dc bytes pc (.lload k) 2 nx) (hl : L[k]? = some (.val (.long x))) (h : Go C nx L (.long x :: S) H cells slots) : Go C pc L S H cells slots :=
  go_pure (fun T _ _ _ X t k => by obtain ⟨hd, rfl⟩ := hd; exact XT.lload X.here C.exec rfl (hb C.bys hd) (getL hl) k) h
theorem go_lloadN {k : Fin 4} {x : Int64} (hd : Dc bytes pc (.lload_n k) 1 nx) (hl : L[k.val]? = some (.val (.long x))) (h : Go C nx L (.long x :: S) H cells slots) : Go C pc L S H cells slots :=
  go_pure (fun T _ _ _ X t k => by obtain ⟨hd, rfl⟩ := hd; exact XT.lloadN X.here C.exec rfl (hb C.bys hd) (getL hl) k) h
theorem go_aload {k : Nat} {x : Value} (hd : Dc bytes pc (.aload k) 2 nx) (hl : L[k]? = some (.val x)) (hr : x.isRef = true) (h : Go C nx L (x :: S) H cells slots) : Go C pc L S H cells slots :=
  go_pure (fun T _ _ _ X t k => by obtain ⟨hd, rfl⟩ := hd; exact XS.aload X.here C.exec rfl (hb C.bys hd) (getL hl) ((isRef_up b x).trans hr) k) h
theorem go_aloadN {k : Fin 4} {x : Value} (hd : Dc bytes pc (.aload_n k) 1 nx) (hl : L[k.val]? = some (.val x)) (hr : x.isRef = true) (h : Go C nx L (x :: S) H cells slots) : Go C pc L S H cells slots :=
  go_pure (fun T _ _ _ X t k => by obtain ⟨hd, rfl⟩ := hd; exact XS.aloadN X.here C.exec rfl (hb C.bys hd) (getL hl) ((isRef_up b x).trans hr) k) h
theorem go_iconst {i : Int} {x : Int32} (hd : Dc bytes pc (.iconst i) 1 nx) (hv : Int32.ofInt i = x) (h : Go C nx L (.int x :: S) H cells slots) : Go C pc L S H cells slots :=
  go_pure (fun T _ _ _ X t k => by obtain ⟨hd, rfl⟩ := hd; subst hv; exact XS.iconst X.here C.exec rfl (hb C.bys hd) k) h
theorem go_bipush {i : Int} {x : Int32} (hd : Dc bytes pc (.bipush i) 2 nx) (hv : (Int8.ofInt i).toInt32 = x) (h : Go C nx L (.int x :: S) H cells slots) : Go C pc L S H cells slots :=
  go_pure (fun T _ _ _ X t k => by obtain ⟨hd, rfl⟩ := hd; subst hv; exact XS.bipush X.here C.exec rfl (hb C.bys hd) k) h
theorem go_sipush {i : Int} {x : Int32} (hd : Dc bytes pc (.sipush i) 3 nx) (hv : (Int16.ofInt i).toInt32 = x) (h : Go C nx L (.int x :: S) H cells slots) : Go C pc L S H cells slots :=
  go_pure (fun T _ _ _ X t k => by obtain ⟨hd, rfl⟩ := hd; subst hv; exact XS.sipush X.here C.exec rfl (hb C.bys hd) k) h
theorem go_lconst {i : Fin 2} {x : Int64} (hd : Dc bytes pc (.lconst i) 1 nx) (hv : Int64.ofNat i = x) (h : Go C nx L (.long x :: S) H cells slots) : Go C pc L S H cells slots :=
  go_pure (fun T _ _ _ X t k => by obtain ⟨hd, rfl⟩ := hd; subst hv; exact XT.lconst X.here C.exec rfl (hb C.bys hd) k) h
theorem go_null (hd : Dc bytes pc .aconst_null 1 nx) (h : Go C nx L (.null :: S) H cells slots) : Go C pc L S H cells slots :=
  go_pure (fun T _ _ _ X t k => by obtain ⟨hd, rfl⟩ := hd; exact XS.aconstNull X.here C.exec rfl (hb C.bys hd) k) h
theorem go_ldc {i : Nat} {x : Int32} (hd : Dc bytes pc (.ldc i) 2 nx) (w : Jvm.Cond.constant y.cls i x ∈ W) (h : Go C nx L (.int x :: S) H cells slots) : Go C pc L S H cells slots :=
  go_pure (fun T _ _ _ X t k => by obtain ⟨hd, rfl⟩ := hd; exact X.ldcInt C.exec C.own (mvT C.warm (C.hw _ w)) (g := frm b m pc L S) rfl (hb C.bys hd) _ k) h
theorem go_ldc2 {i : Nat} {x : Int64} (hd : Dc bytes pc (.ldc2_w i) 3 nx) (w : Jvm.Cond.constantLong y.cls i x ∈ W) (h : Go C nx L (.long x :: S) H cells slots) : Go C pc L S H cells slots :=
  go_pure (fun T _ _ _ X t k => by obtain ⟨hd, rfl⟩ := hd; exact X.ldc2Long C.exec C.own (mvT C.warm (C.hw _ w)) (g := frm b m pc L S) rfl (hb C.bys hd) _ k) h
theorem go_iadd {x : Int32} {z : Int32} (hd : Dc bytes pc .iadd 1 nx) (h : Go C nx L (.int (x + z) :: S) H cells slots) : Go C pc L (.int z :: .int x :: S) H cells slots :=
  go_pure (fun T _ _ _ X t k => by obtain ⟨hd, rfl⟩ := hd; exact XS.iadd X.here C.exec rfl (hb C.bys hd) rfl k) h
theorem go_ladd {x : Int64} {z : Int64} (hd : Dc bytes pc .ladd 1 nx) (h : Go C nx L (.long (x + z) :: S) H cells slots) : Go C pc L (.long z :: .long x :: S) H cells slots :=
  go_pure (fun T _ _ _ X t k => by obtain ⟨hd, rfl⟩ := hd; exact XT.ladd X.here C.exec rfl (hb C.bys hd) rfl k) h
theorem go_isub {x : Int32} {z : Int32} (hd : Dc bytes pc .isub 1 nx) (h : Go C nx L (.int (x - z) :: S) H cells slots) : Go C pc L (.int z :: .int x :: S) H cells slots :=
  go_pure (fun T _ _ _ X t k => by obtain ⟨hd, rfl⟩ := hd; exact XS.isub X.here C.exec rfl (hb C.bys hd) rfl k) h
theorem go_lsub {x : Int64} {z : Int64} (hd : Dc bytes pc .lsub 1 nx) (h : Go C nx L (.long (x - z) :: S) H cells slots) : Go C pc L (.long z :: .long x :: S) H cells slots :=
  go_pure (fun T _ _ _ X t k => by obtain ⟨hd, rfl⟩ := hd; exact XT.lsub X.here C.exec rfl (hb C.bys hd) rfl k) h
theorem go_imul {x : Int32} {z : Int32} (hd : Dc bytes pc .imul 1 nx) (h : Go C nx L (.int (x * z) :: S) H cells slots) : Go C pc L (.int z :: .int x :: S) H cells slots :=
  go_pure (fun T _ _ _ X t k => by obtain ⟨hd, rfl⟩ := hd; exact XS.imul X.here C.exec rfl (hb C.bys hd) rfl k) h
theorem go_lmul {x : Int64} {z : Int64} (hd : Dc bytes pc .lmul 1 nx) (h : Go C nx L (.long (x * z) :: S) H cells slots) : Go C pc L (.long z :: .long x :: S) H cells slots :=
  go_pure (fun T _ _ _ X t k => by obtain ⟨hd, rfl⟩ := hd; exact XT.lmul X.here C.exec rfl (hb C.bys hd) rfl k) h
theorem go_iand {x : Int32} {z : Int32} (hd : Dc bytes pc .iand 1 nx) (h : Go C nx L (.int (x &&& z) :: S) H cells slots) : Go C pc L (.int z :: .int x :: S) H cells slots :=
  go_pure (fun T _ _ _ X t k => by obtain ⟨hd, rfl⟩ := hd; exact XS.iand X.here C.exec rfl (hb C.bys hd) rfl k) h
theorem go_land {x : Int64} {z : Int64} (hd : Dc bytes pc .land 1 nx) (h : Go C nx L (.long (x &&& z) :: S) H cells slots) : Go C pc L (.long z :: .long x :: S) H cells slots :=
  go_pure (fun T _ _ _ X t k => by obtain ⟨hd, rfl⟩ := hd; exact XT.land X.here C.exec rfl (hb C.bys hd) rfl k) h
theorem go_ior {x : Int32} {z : Int32} (hd : Dc bytes pc .ior 1 nx) (h : Go C nx L (.int (x ||| z) :: S) H cells slots) : Go C pc L (.int z :: .int x :: S) H cells slots :=
  go_pure (fun T _ _ _ X t k => by obtain ⟨hd, rfl⟩ := hd; exact XT.ior X.here C.exec rfl (hb C.bys hd) rfl k) h
theorem go_lor {x : Int64} {z : Int64} (hd : Dc bytes pc .lor 1 nx) (h : Go C nx L (.long (x ||| z) :: S) H cells slots) : Go C pc L (.long z :: .long x :: S) H cells slots :=
  go_pure (fun T _ _ _ X t k => by obtain ⟨hd, rfl⟩ := hd; exact XT.lor X.here C.exec rfl (hb C.bys hd) rfl k) h
theorem go_ixor {x : Int32} {z : Int32} (hd : Dc bytes pc .ixor 1 nx) (h : Go C nx L (.int (x ^^^ z) :: S) H cells slots) : Go C pc L (.int z :: .int x :: S) H cells slots :=
  go_pure (fun T _ _ _ X t k => by obtain ⟨hd, rfl⟩ := hd; exact XT.ixor X.here C.exec rfl (hb C.bys hd) rfl k) h
theorem go_lxor {x : Int64} {z : Int64} (hd : Dc bytes pc .lxor 1 nx) (h : Go C nx L (.long (x ^^^ z) :: S) H cells slots) : Go C pc L (.long z :: .long x :: S) H cells slots :=
  go_pure (fun T _ _ _ X t k => by obtain ⟨hd, rfl⟩ := hd; exact XT.lxor X.here C.exec rfl (hb C.bys hd) rfl k) h
theorem go_ishl {x : Int32} {z : Int32} (hd : Dc bytes pc .ishl 1 nx) (h : Go C nx L (.int (x <<< (z &&& 31)) :: S) H cells slots) : Go C pc L (.int z :: .int x :: S) H cells slots :=
  go_pure (fun T _ _ _ X t k => by obtain ⟨hd, rfl⟩ := hd; exact XT.ishl X.here C.exec rfl (hb C.bys hd) rfl k) h
theorem go_ishr {x : Int32} {z : Int32} (hd : Dc bytes pc .ishr 1 nx) (h : Go C nx L (.int (x >>> (z &&& 31)) :: S) H cells slots) : Go C pc L (.int z :: .int x :: S) H cells slots :=
  go_pure (fun T _ _ _ X t k => by obtain ⟨hd, rfl⟩ := hd; exact XT.ishr X.here C.exec rfl (hb C.bys hd) rfl k) h
theorem go_iushr {x : Int32} {z : Int32} (hd : Dc bytes pc .iushr 1 nx) (h : Go C nx L (.int (XT.ushr x z) :: S) H cells slots) : Go C pc L (.int z :: .int x :: S) H cells slots :=
  go_pure (fun T _ _ _ X t k => by obtain ⟨hd, rfl⟩ := hd; exact XT.iushr X.here C.exec rfl (hb C.bys hd) rfl k) h
theorem go_lshl {x : Int64} {z : Int32} (hd : Dc bytes pc .lshl 1 nx) (h : Go C nx L (.long (x <<< (z.toInt64 &&& 63)) :: S) H cells slots) : Go C pc L (.int z :: .long x :: S) H cells slots :=
  go_pure (fun T _ _ _ X t k => by obtain ⟨hd, rfl⟩ := hd; exact XT.lshl X.here C.exec rfl (hb C.bys hd) rfl k) h
theorem go_lshr {x : Int64} {z : Int32} (hd : Dc bytes pc .lshr 1 nx) (h : Go C nx L (.long (x >>> (z.toInt64 &&& 63)) :: S) H cells slots) : Go C pc L (.int z :: .long x :: S) H cells slots :=
  go_pure (fun T _ _ _ X t k => by obtain ⟨hd, rfl⟩ := hd; exact XT.lshr X.here C.exec rfl (hb C.bys hd) rfl k) h
theorem go_lushr {x : Int64} {z : Int32} (hd : Dc bytes pc .lushr 1 nx) (h : Go C nx L (.long (XT.ushrL x z) :: S) H cells slots) : Go C pc L (.int z :: .long x :: S) H cells slots :=
  go_pure (fun T _ _ _ X t k => by obtain ⟨hd, rfl⟩ := hd; exact XT.lushr X.here C.exec rfl (hb C.bys hd) rfl k) h
theorem go_ineg {x : Int32} (hd : Dc bytes pc .ineg 1 nx) (h : Go C nx L (.int (-x) :: S) H cells slots) : Go C pc L (.int x :: S) H cells slots :=
  go_pure (fun T _ _ _ X t k => by obtain ⟨hd, rfl⟩ := hd; exact XS.ineg X.here C.exec rfl (hb C.bys hd) rfl k) h
theorem go_lneg {x : Int64} (hd : Dc bytes pc .lneg 1 nx) (h : Go C nx L (.long (-x) :: S) H cells slots) : Go C pc L (.long x :: S) H cells slots :=
  go_pure (fun T _ _ _ X t k => by obtain ⟨hd, rfl⟩ := hd; exact XT.lneg X.here C.exec rfl (hb C.bys hd) rfl k) h
theorem go_i2l {x : Int32} (hd : Dc bytes pc .i2l 1 nx) (h : Go C nx L (.long (x.toInt64) :: S) H cells slots) : Go C pc L (.int x :: S) H cells slots :=
  go_pure (fun T _ _ _ X t k => by obtain ⟨hd, rfl⟩ := hd; exact XT.i2l X.here C.exec rfl (hb C.bys hd) rfl k) h
theorem go_l2i {x : Int64} (hd : Dc bytes pc .l2i 1 nx) (h : Go C nx L (.int (x.toInt32) :: S) H cells slots) : Go C pc L (.long x :: S) H cells slots :=
  go_pure (fun T _ _ _ X t k => by obtain ⟨hd, rfl⟩ := hd; exact XT.l2i X.here C.exec rfl (hb C.bys hd) rfl k) h
theorem go_i2b {x : Int32} (hd : Dc bytes pc .i2b 1 nx) (h : Go C nx L (.int (x.toInt8.toInt32) :: S) H cells slots) : Go C pc L (.int x :: S) H cells slots :=
  go_pure (fun T _ _ _ X t k => by obtain ⟨hd, rfl⟩ := hd; exact XT.i2b X.here C.exec rfl (hb C.bys hd) rfl k) h
theorem go_i2c {x : Int32} (hd : Dc bytes pc .i2c 1 nx) (h : Go C nx L (.int (x.toUInt32.toUInt16.toUInt32.toInt32) :: S) H cells slots) : Go C pc L (.int x :: S) H cells slots :=
  go_pure (fun T _ _ _ X t k => by obtain ⟨hd, rfl⟩ := hd; exact XT.i2c X.here C.exec rfl (hb C.bys hd) rfl k) h
theorem go_i2s {x : Int32} (hd : Dc bytes pc .i2s 1 nx) (h : Go C nx L (.int (x.toInt16.toInt32) :: S) H cells slots) : Go C pc L (.int x :: S) H cells slots :=
  go_pure (fun T _ _ _ X t k => by obtain ⟨hd, rfl⟩ := hd; exact XT.i2s X.here C.exec rfl (hb C.bys hd) rfl k) h
theorem go_idiv {x z : Int32} (hd : Dc bytes pc .idiv 1 nx) (hz : z ≠ 0) (h : Go C nx L (.int (x / z) :: S) H cells slots) : Go C pc L (.int z :: .int x :: S) H cells slots :=
  go_pure (fun T _ _ _ X t k => by obtain ⟨hd, rfl⟩ := hd; exact XS.idiv X.here C.exec rfl (hb C.bys hd) rfl hz k) h
theorem go_irem {x z : Int32} (hd : Dc bytes pc .irem 1 nx) (hz : z ≠ 0) (h : Go C nx L (.int (x % z) :: S) H cells slots) : Go C pc L (.int z :: .int x :: S) H cells slots :=
  go_pure (fun T _ _ _ X t k => by obtain ⟨hd, rfl⟩ := hd; exact iremM X C.exec rfl (hb C.bys hd) rfl hz k) h
theorem go_dup {v : Value} (hd : Dc bytes pc .dup 1 nx) (hc : v.category = 1) (h : Go C nx L (v :: v :: S) H cells slots) : Go C pc L (v :: S) H cells slots :=
  go_pure (fun T _ _ _ X t k => by obtain ⟨hd, rfl⟩ := hd; exact XS.dup X.here C.exec rfl (hb C.bys hd) rfl ((cat_up b v).trans hc) k) h
theorem go_dupX1 {v w : Value} (hd : Dc bytes pc .dup_x1 1 nx) (hc : v.category = 1) (hc' : w.category = 1) (h : Go C nx L (v :: w :: v :: S) H cells slots) : Go C pc L (v :: w :: S) H cells slots :=
  go_pure (fun T _ _ _ X t k => by obtain ⟨hd, rfl⟩ := hd; exact XT.dupX1 X.here C.exec rfl (hb C.bys hd) rfl ((cat_up b v).trans hc) ((cat_up b w).trans hc') k) h
theorem go_dup2 {v w : Value} (hd : Dc bytes pc .dup2 1 nx) (hc : v.category = 1) (hc' : w.category = 1) (h : Go C nx L (v :: w :: v :: w :: S) H cells slots) : Go C pc L (v :: w :: S) H cells slots :=
  go_pure (fun T _ _ _ X t k => by obtain ⟨hd, rfl⟩ := hd; exact XT.dup2 X.here C.exec rfl (hb C.bys hd) rfl ((cat_up b v).trans hc) ((cat_up b w).trans hc') k) h
theorem go_dup2L {x : Int64} (hd : Dc bytes pc .dup2 1 nx) (h : Go C nx L (.long x :: .long x :: S) H cells slots) : Go C pc L (.long x :: S) H cells slots :=
  go_pure (fun T _ _ _ X t k => by obtain ⟨hd, rfl⟩ := hd; exact XT.dup2L X.here C.exec rfl (hb C.bys hd) rfl k) h
theorem go_pop {v : Value} (hd : Dc bytes pc .pop 1 nx) (hc : v.category = 1) (h : Go C nx L S H cells slots) : Go C pc L (v :: S) H cells slots :=
  go_pure (fun T _ _ _ X t k => by obtain ⟨hd, rfl⟩ := hd; exact XT.pop X.here C.exec rfl (hb C.bys hd) rfl ((cat_up b v).trans hc) k) h
theorem go_goto {o : Int} (hd : Dc bytes pc (.goto o) 3 nx) (ht : (pc : Int) + o = (tg : Nat)) (h : Go C tg L S H cells slots) : Go C pc L S H cells slots :=
  go_pure (fun T _ _ _ X t k => XS.goto X.here C.exec rfl (pc0 := pc) (pc' := tg) rfl (hb C.bys hd.1) (by omega) (by omega) k) h
theorem go_icmp {cd : ClassFile.Cond} {o : Int} {x z : Int32} (hd : Dc bytes pc (.if_icmp cd o) 3 nx) (ht : (pc : Int) + o = (tg : Nat)) (h1 : if_icmp.holds cd x z = true → Go C tg L S H cells slots) (h2 : if_icmp.holds cd x z = false → Go C nx L S H cells slots) : Go C pc L (.int z :: .int x :: S) H cells slots := by
  cases q : if_icmp.holds cd x z
  · exact go_pure (fun T _ _ _ X t k => by obtain ⟨hd, rfl⟩ := hd; exact XS.icmpNo X.here C.exec rfl (hb C.bys hd) rfl q k) (h2 q)
  · exact go_pure (fun T _ _ _ X t k => XS.icmpYes X.here C.exec rfl (pc0 := pc) (pc' := tg) rfl (hb C.bys hd.1) rfl q (by omega) (by omega) k) (h1 q)
theorem go_if {cd : ClassFile.Cond} {o : Int} {x : Int32} (hd : Dc bytes pc (.ifCond cd o) 3 nx) (ht : (pc : Int) + o = (tg : Nat)) (h1 : if_icmp.holds cd x 0 = true → Go C tg L S H cells slots) (h2 : if_icmp.holds cd x 0 = false → Go C nx L S H cells slots) : Go C pc L (.int x :: S) H cells slots := by
  cases q : if_icmp.holds cd x 0
  · exact go_pure (fun T _ _ _ X t k => by obtain ⟨hd, rfl⟩ := hd; exact XS.ifNo X.here C.exec rfl (hb C.bys hd) rfl ((if0 _ _).trans q) k) (h2 q)
  · exact go_pure (fun T _ _ _ X t k => XS.ifYes X.here C.exec rfl (pc0 := pc) (pc' := tg) rfl (hb C.bys hd.1) rfl ((if0 _ _).trans q) (by omega) (by omega) k) (h1 q)
theorem h_eq {x z : Int32} {B : Bool} (q : if_icmp.holds .eq x z = B) : B = true ↔ x = z := by subst q; simp [if_icmp.holds]
theorem h_ne {x z : Int32} {B : Bool} (q : if_icmp.holds .ne x z = B) : B = true ↔ ¬ x = z := by subst q; simp [if_icmp.holds]
theorem h_lt {x z : Int32} {B : Bool} (q : if_icmp.holds .lt x z = B) : B = true ↔ x.toInt < z.toInt := by subst q; simp [if_icmp.holds, Int32.lt_iff_toInt_lt]
theorem h_ge {x z : Int32} {B : Bool} (q : if_icmp.holds .ge x z = B) : B = true ↔ z.toInt ≤ x.toInt := by subst q; simp [if_icmp.holds, Int32.le_iff_toInt_le]
theorem h_gt {x z : Int32} {B : Bool} (q : if_icmp.holds .gt x z = B) : B = true ↔ z.toInt < x.toInt := by subst q; simp [if_icmp.holds, Int32.lt_iff_toInt_lt]
theorem h_le {x z : Int32} {B : Bool} (q : if_icmp.holds .le x z = B) : B = true ↔ x.toInt ≤ z.toInt := by subst q; simp [if_icmp.holds, Int32.le_iff_toInt_le]
theorem go_iceq {o : Int} {x z : Int32} (hd : Dc bytes pc (.if_icmp .eq o) 3 nx) (ht : (pc : Int) + o = (tg : Nat)) (h1 : x = z → Go C tg L S H cells slots) (h2 : ¬ x = z → Go C nx L S H cells slots) : Go C pc L (.int z :: .int x :: S) H cells slots :=
  go_icmp hd ht (fun q => h1 ((h_eq q).mp rfl)) (fun q => h2 (fun r => Bool.noConfusion ((h_eq q).mpr r)))
theorem go_iceqY {o : Int} {x z : Int32} (hd : Dc bytes pc (.if_icmp .eq o) 3 nx) (ht : (pc : Int) + o = (tg : Nat)) (hc : x = z) (h : Go C tg L S H cells slots) : Go C pc L (.int z :: .int x :: S) H cells slots :=
  go_iceq hd ht (fun _ => h) (fun q => absurd hc (by first | exact q | exact not_not_intro q | omega))
theorem go_iceqN {o : Int} {x z : Int32} (hd : Dc bytes pc (.if_icmp .eq o) 3 nx) (ht : (pc : Int) + o = (tg : Nat)) (hc : ¬ x = z) (h : Go C nx L S H cells slots) : Go C pc L (.int z :: .int x :: S) H cells slots :=
  go_iceq hd ht (fun q => absurd hc (by first | exact q | exact not_not_intro q | omega)) (fun _ => h)
theorem go_ifeq {o : Int} {x : Int32} (hd : Dc bytes pc (.ifCond .eq o) 3 nx) (ht : (pc : Int) + o = (tg : Nat)) (h1 : x = 0 → Go C tg L S H cells slots) (h2 : ¬ x = 0 → Go C nx L S H cells slots) : Go C pc L (.int x :: S) H cells slots :=
  go_if hd ht (fun q => h1 ((h_eq q).mp rfl)) (fun q => h2 (fun r => Bool.noConfusion ((h_eq q).mpr r)))
theorem go_ifeqY {o : Int} {x : Int32} (hd : Dc bytes pc (.ifCond .eq o) 3 nx) (ht : (pc : Int) + o = (tg : Nat)) (hc : x = 0) (h : Go C tg L S H cells slots) : Go C pc L (.int x :: S) H cells slots :=
  go_ifeq hd ht (fun _ => h) (fun q => absurd hc (by first | exact q | exact not_not_intro q | omega))
theorem go_ifeqN {o : Int} {x : Int32} (hd : Dc bytes pc (.ifCond .eq o) 3 nx) (ht : (pc : Int) + o = (tg : Nat)) (hc : ¬ x = 0) (h : Go C nx L S H cells slots) : Go C pc L (.int x :: S) H cells slots :=
  go_ifeq hd ht (fun q => absurd hc (by first | exact q | exact not_not_intro q | omega)) (fun _ => h)
theorem go_icne {o : Int} {x z : Int32} (hd : Dc bytes pc (.if_icmp .ne o) 3 nx) (ht : (pc : Int) + o = (tg : Nat)) (h1 : ¬ x = z → Go C tg L S H cells slots) (h2 : x = z → Go C nx L S H cells slots) : Go C pc L (.int z :: .int x :: S) H cells slots :=
  go_icmp hd ht (fun q => h1 ((h_ne q).mp rfl)) (fun q => h2 (Decidable.not_not.mp fun r => Bool.noConfusion ((h_ne q).mpr r)))
theorem go_icneY {o : Int} {x z : Int32} (hd : Dc bytes pc (.if_icmp .ne o) 3 nx) (ht : (pc : Int) + o = (tg : Nat)) (hc : ¬ x = z) (h : Go C tg L S H cells slots) : Go C pc L (.int z :: .int x :: S) H cells slots :=
  go_icne hd ht (fun _ => h) (fun q => absurd hc (by first | exact q | exact not_not_intro q | omega))
theorem go_icneN {o : Int} {x z : Int32} (hd : Dc bytes pc (.if_icmp .ne o) 3 nx) (ht : (pc : Int) + o = (tg : Nat)) (hc : x = z) (h : Go C nx L S H cells slots) : Go C pc L (.int z :: .int x :: S) H cells slots :=
  go_icne hd ht (fun q => absurd hc (by first | exact q | exact not_not_intro q | omega)) (fun _ => h)
theorem go_ifne {o : Int} {x : Int32} (hd : Dc bytes pc (.ifCond .ne o) 3 nx) (ht : (pc : Int) + o = (tg : Nat)) (h1 : ¬ x = 0 → Go C tg L S H cells slots) (h2 : x = 0 → Go C nx L S H cells slots) : Go C pc L (.int x :: S) H cells slots :=
  go_if hd ht (fun q => h1 ((h_ne q).mp rfl)) (fun q => h2 (Decidable.not_not.mp fun r => Bool.noConfusion ((h_ne q).mpr r)))
theorem go_ifneY {o : Int} {x : Int32} (hd : Dc bytes pc (.ifCond .ne o) 3 nx) (ht : (pc : Int) + o = (tg : Nat)) (hc : ¬ x = 0) (h : Go C tg L S H cells slots) : Go C pc L (.int x :: S) H cells slots :=
  go_ifne hd ht (fun _ => h) (fun q => absurd hc (by first | exact q | exact not_not_intro q | omega))
theorem go_ifneN {o : Int} {x : Int32} (hd : Dc bytes pc (.ifCond .ne o) 3 nx) (ht : (pc : Int) + o = (tg : Nat)) (hc : x = 0) (h : Go C nx L S H cells slots) : Go C pc L (.int x :: S) H cells slots :=
  go_ifne hd ht (fun q => absurd hc (by first | exact q | exact not_not_intro q | omega)) (fun _ => h)
theorem go_iclt {o : Int} {x z : Int32} (hd : Dc bytes pc (.if_icmp .lt o) 3 nx) (ht : (pc : Int) + o = (tg : Nat)) (h1 : x.toInt < z.toInt → Go C tg L S H cells slots) (h2 : z.toInt ≤ x.toInt → Go C nx L S H cells slots) : Go C pc L (.int z :: .int x :: S) H cells slots :=
  go_icmp hd ht (fun q => h1 ((h_lt q).mp rfl)) (fun q => h2 ((by have := mt (h_lt q).mpr (by simp); omega)))
theorem go_icltY {o : Int} {x z : Int32} (hd : Dc bytes pc (.if_icmp .lt o) 3 nx) (ht : (pc : Int) + o = (tg : Nat)) (hc : x.toInt < z.toInt) (h : Go C tg L S H cells slots) : Go C pc L (.int z :: .int x :: S) H cells slots :=
  go_iclt hd ht (fun _ => h) (fun q => absurd hc (by first | exact q | exact not_not_intro q | omega))
theorem go_icltN {o : Int} {x z : Int32} (hd : Dc bytes pc (.if_icmp .lt o) 3 nx) (ht : (pc : Int) + o = (tg : Nat)) (hc : z.toInt ≤ x.toInt) (h : Go C nx L S H cells slots) : Go C pc L (.int z :: .int x :: S) H cells slots :=
  go_iclt hd ht (fun q => absurd hc (by first | exact q | exact not_not_intro q | omega)) (fun _ => h)
theorem go_iflt {o : Int} {x : Int32} (hd : Dc bytes pc (.ifCond .lt o) 3 nx) (ht : (pc : Int) + o = (tg : Nat)) (h1 : x.toInt < 0 → Go C tg L S H cells slots) (h2 : 0 ≤ x.toInt → Go C nx L S H cells slots) : Go C pc L (.int x :: S) H cells slots :=
  go_if hd ht (fun q => h1 ((by have := (h_lt q).mp rfl; simpa using this))) (fun q => h2 ((by have := mt (h_lt q).mpr (by simp); simpa using this)))
theorem go_ifltY {o : Int} {x : Int32} (hd : Dc bytes pc (.ifCond .lt o) 3 nx) (ht : (pc : Int) + o = (tg : Nat)) (hc : x.toInt < 0) (h : Go C tg L S H cells slots) : Go C pc L (.int x :: S) H cells slots :=
  go_iflt hd ht (fun _ => h) (fun q => absurd hc (by first | exact q | exact not_not_intro q | omega))
theorem go_ifltN {o : Int} {x : Int32} (hd : Dc bytes pc (.ifCond .lt o) 3 nx) (ht : (pc : Int) + o = (tg : Nat)) (hc : 0 ≤ x.toInt) (h : Go C nx L S H cells slots) : Go C pc L (.int x :: S) H cells slots :=
  go_iflt hd ht (fun q => absurd hc (by first | exact q | exact not_not_intro q | omega)) (fun _ => h)
theorem go_icge {o : Int} {x z : Int32} (hd : Dc bytes pc (.if_icmp .ge o) 3 nx) (ht : (pc : Int) + o = (tg : Nat)) (h1 : z.toInt ≤ x.toInt → Go C tg L S H cells slots) (h2 : x.toInt < z.toInt → Go C nx L S H cells slots) : Go C pc L (.int z :: .int x :: S) H cells slots :=
  go_icmp hd ht (fun q => h1 ((h_ge q).mp rfl)) (fun q => h2 ((by have := mt (h_ge q).mpr (by simp); omega)))
theorem go_icgeY {o : Int} {x z : Int32} (hd : Dc bytes pc (.if_icmp .ge o) 3 nx) (ht : (pc : Int) + o = (tg : Nat)) (hc : z.toInt ≤ x.toInt) (h : Go C tg L S H cells slots) : Go C pc L (.int z :: .int x :: S) H cells slots :=
  go_icge hd ht (fun _ => h) (fun q => absurd hc (by first | exact q | exact not_not_intro q | omega))
theorem go_icgeN {o : Int} {x z : Int32} (hd : Dc bytes pc (.if_icmp .ge o) 3 nx) (ht : (pc : Int) + o = (tg : Nat)) (hc : x.toInt < z.toInt) (h : Go C nx L S H cells slots) : Go C pc L (.int z :: .int x :: S) H cells slots :=
  go_icge hd ht (fun q => absurd hc (by first | exact q | exact not_not_intro q | omega)) (fun _ => h)
theorem go_ifge {o : Int} {x : Int32} (hd : Dc bytes pc (.ifCond .ge o) 3 nx) (ht : (pc : Int) + o = (tg : Nat)) (h1 : 0 ≤ x.toInt → Go C tg L S H cells slots) (h2 : x.toInt < 0 → Go C nx L S H cells slots) : Go C pc L (.int x :: S) H cells slots :=
  go_if hd ht (fun q => h1 ((by have := (h_ge q).mp rfl; simpa using this))) (fun q => h2 ((by have := mt (h_ge q).mpr (by simp); simpa using this)))
theorem go_ifgeY {o : Int} {x : Int32} (hd : Dc bytes pc (.ifCond .ge o) 3 nx) (ht : (pc : Int) + o = (tg : Nat)) (hc : 0 ≤ x.toInt) (h : Go C tg L S H cells slots) : Go C pc L (.int x :: S) H cells slots :=
  go_ifge hd ht (fun _ => h) (fun q => absurd hc (by first | exact q | exact not_not_intro q | omega))
theorem go_ifgeN {o : Int} {x : Int32} (hd : Dc bytes pc (.ifCond .ge o) 3 nx) (ht : (pc : Int) + o = (tg : Nat)) (hc : x.toInt < 0) (h : Go C nx L S H cells slots) : Go C pc L (.int x :: S) H cells slots :=
  go_ifge hd ht (fun q => absurd hc (by first | exact q | exact not_not_intro q | omega)) (fun _ => h)
theorem go_icgt {o : Int} {x z : Int32} (hd : Dc bytes pc (.if_icmp .gt o) 3 nx) (ht : (pc : Int) + o = (tg : Nat)) (h1 : z.toInt < x.toInt → Go C tg L S H cells slots) (h2 : x.toInt ≤ z.toInt → Go C nx L S H cells slots) : Go C pc L (.int z :: .int x :: S) H cells slots :=
  go_icmp hd ht (fun q => h1 ((h_gt q).mp rfl)) (fun q => h2 ((by have := mt (h_gt q).mpr (by simp); omega)))
theorem go_icgtY {o : Int} {x z : Int32} (hd : Dc bytes pc (.if_icmp .gt o) 3 nx) (ht : (pc : Int) + o = (tg : Nat)) (hc : z.toInt < x.toInt) (h : Go C tg L S H cells slots) : Go C pc L (.int z :: .int x :: S) H cells slots :=
  go_icgt hd ht (fun _ => h) (fun q => absurd hc (by first | exact q | exact not_not_intro q | omega))
theorem go_icgtN {o : Int} {x z : Int32} (hd : Dc bytes pc (.if_icmp .gt o) 3 nx) (ht : (pc : Int) + o = (tg : Nat)) (hc : x.toInt ≤ z.toInt) (h : Go C nx L S H cells slots) : Go C pc L (.int z :: .int x :: S) H cells slots :=
  go_icgt hd ht (fun q => absurd hc (by first | exact q | exact not_not_intro q | omega)) (fun _ => h)
theorem go_ifgt {o : Int} {x : Int32} (hd : Dc bytes pc (.ifCond .gt o) 3 nx) (ht : (pc : Int) + o = (tg : Nat)) (h1 : 0 < x.toInt → Go C tg L S H cells slots) (h2 : x.toInt ≤ 0 → Go C nx L S H cells slots) : Go C pc L (.int x :: S) H cells slots :=
  go_if hd ht (fun q => h1 ((by have := (h_gt q).mp rfl; simpa using this))) (fun q => h2 ((by have := mt (h_gt q).mpr (by simp); simpa using this)))
theorem go_ifgtY {o : Int} {x : Int32} (hd : Dc bytes pc (.ifCond .gt o) 3 nx) (ht : (pc : Int) + o = (tg : Nat)) (hc : 0 < x.toInt) (h : Go C tg L S H cells slots) : Go C pc L (.int x :: S) H cells slots :=
  go_ifgt hd ht (fun _ => h) (fun q => absurd hc (by first | exact q | exact not_not_intro q | omega))
theorem go_ifgtN {o : Int} {x : Int32} (hd : Dc bytes pc (.ifCond .gt o) 3 nx) (ht : (pc : Int) + o = (tg : Nat)) (hc : x.toInt ≤ 0) (h : Go C nx L S H cells slots) : Go C pc L (.int x :: S) H cells slots :=
  go_ifgt hd ht (fun q => absurd hc (by first | exact q | exact not_not_intro q | omega)) (fun _ => h)
theorem go_icle {o : Int} {x z : Int32} (hd : Dc bytes pc (.if_icmp .le o) 3 nx) (ht : (pc : Int) + o = (tg : Nat)) (h1 : x.toInt ≤ z.toInt → Go C tg L S H cells slots) (h2 : z.toInt < x.toInt → Go C nx L S H cells slots) : Go C pc L (.int z :: .int x :: S) H cells slots :=
  go_icmp hd ht (fun q => h1 ((h_le q).mp rfl)) (fun q => h2 ((by have := mt (h_le q).mpr (by simp); omega)))
theorem go_icleY {o : Int} {x z : Int32} (hd : Dc bytes pc (.if_icmp .le o) 3 nx) (ht : (pc : Int) + o = (tg : Nat)) (hc : x.toInt ≤ z.toInt) (h : Go C tg L S H cells slots) : Go C pc L (.int z :: .int x :: S) H cells slots :=
  go_icle hd ht (fun _ => h) (fun q => absurd hc (by first | exact q | exact not_not_intro q | omega))
theorem go_icleN {o : Int} {x z : Int32} (hd : Dc bytes pc (.if_icmp .le o) 3 nx) (ht : (pc : Int) + o = (tg : Nat)) (hc : z.toInt < x.toInt) (h : Go C nx L S H cells slots) : Go C pc L (.int z :: .int x :: S) H cells slots :=
  go_icle hd ht (fun q => absurd hc (by first | exact q | exact not_not_intro q | omega)) (fun _ => h)
theorem go_ifle {o : Int} {x : Int32} (hd : Dc bytes pc (.ifCond .le o) 3 nx) (ht : (pc : Int) + o = (tg : Nat)) (h1 : x.toInt ≤ 0 → Go C tg L S H cells slots) (h2 : 0 < x.toInt → Go C nx L S H cells slots) : Go C pc L (.int x :: S) H cells slots :=
  go_if hd ht (fun q => h1 ((by have := (h_le q).mp rfl; simpa using this))) (fun q => h2 ((by have := mt (h_le q).mpr (by simp); simpa using this)))
theorem go_ifleY {o : Int} {x : Int32} (hd : Dc bytes pc (.ifCond .le o) 3 nx) (ht : (pc : Int) + o = (tg : Nat)) (hc : x.toInt ≤ 0) (h : Go C tg L S H cells slots) : Go C pc L (.int x :: S) H cells slots :=
  go_ifle hd ht (fun _ => h) (fun q => absurd hc (by first | exact q | exact not_not_intro q | omega))
theorem go_ifleN {o : Int} {x : Int32} (hd : Dc bytes pc (.ifCond .le o) 3 nx) (ht : (pc : Int) + o = (tg : Nat)) (hc : 0 < x.toInt) (h : Go C nx L S H cells slots) : Go C pc L (.int x :: S) H cells slots :=
  go_ifle hd ht (fun q => absurd hc (by first | exact q | exact not_not_intro q | omega)) (fun _ => h)
theorem lcm_eq (x z : Int64) : XT.cmpL x z = 0 ↔ x = z := by
  unfold XT.cmpL
  by_cases h1 : z < x
  · rw [if_pos h1]; constructor
    · intro h; cases h
    · rintro rfl; exact (Int64.lt_irrefl h1).elim
  · rw [if_neg h1]; by_cases h2 : x = z
    · rw [if_pos h2]; simp [h2]
    · rw [if_neg h2]; constructor
      · intro h; cases h
      · intro h; exact absurd h h2
theorem lcm_lt (x z : Int64) : (XT.cmpL x z).toInt < 0 ↔ x.toInt < z.toInt := by
  unfold XT.cmpL
  by_cases h1 : z < x
  · rw [if_pos h1]; rw [Int64.lt_iff_toInt_lt] at h1; constructor
    · intro h; exact absurd h (by decide)
    · intro h; omega
  · rw [if_neg h1]; rw [Int64.lt_iff_toInt_lt] at h1; by_cases h2 : x = z
    · rw [if_pos h2]; subst h2; constructor
      · intro h; exact absurd h (by decide)
      · intro h; omega
    · rw [if_neg h2]; have : x.toInt ≠ z.toInt := fun q => h2 (Int64.toInt_inj.mp q)
      constructor
      · intro h; omega
      · intro h; decide
theorem lcm_gt (x z : Int64) : 0 < (XT.cmpL x z).toInt ↔ z.toInt < x.toInt := by
  unfold XT.cmpL
  by_cases h1 : z < x
  · rw [if_pos h1]; rw [Int64.lt_iff_toInt_lt] at h1; constructor
    · intro h; omega
    · intro h; decide
  · rw [if_neg h1]; rw [Int64.lt_iff_toInt_lt] at h1; by_cases h2 : x = z
    · rw [if_pos h2]; subst h2; constructor
      · intro h; exact absurd h (by decide)
      · intro h; omega
    · rw [if_neg h2]; constructor
      · intro h; exact absurd h (by decide)
      · intro h; omega
theorem go_lcmp {x z : Int64} (hd : Dc bytes pc .lcmp 1 nx) (h : Go C nx L (.int (XT.cmpL x z) :: S) H cells slots) : Go C pc L (.long z :: .long x :: S) H cells slots :=
  go_pure (fun T _ _ _ X t k => by obtain ⟨hd, rfl⟩ := hd; exact XT.lcmp X.here C.exec rfl (hb C.bys hd) rfl k) h
theorem go_lceq {o : Int} {x z : Int64} {p1 : Nat} (hd1 : Dc bytes pc .lcmp 1 p1) (hd : Dc bytes p1 (.ifCond .eq o) 3 nx) (ht : (p1 : Int) + o = (tg : Nat)) (h1 : x = z → Go C tg L S H cells slots) (h2 : ¬ x = z → Go C nx L S H cells slots) : Go C pc L (.long z :: .long x :: S) H cells slots :=
  go_lcmp hd1 (go_ifeq hd ht (fun q => h1 ((lcm_eq x z).mp q)) (fun q => h2 (fun r => q ((lcm_eq x z).mpr r))))
theorem go_lcne {o : Int} {x z : Int64} {p1 : Nat} (hd1 : Dc bytes pc .lcmp 1 p1) (hd : Dc bytes p1 (.ifCond .ne o) 3 nx) (ht : (p1 : Int) + o = (tg : Nat)) (h1 : ¬ x = z → Go C tg L S H cells slots) (h2 : x = z → Go C nx L S H cells slots) : Go C pc L (.long z :: .long x :: S) H cells slots :=
  go_lcmp hd1 (go_ifne hd ht (fun q => h1 (fun r => q ((lcm_eq x z).mpr r))) (fun q => h2 ((lcm_eq x z).mp q)))
theorem go_lclt {o : Int} {x z : Int64} {p1 : Nat} (hd1 : Dc bytes pc .lcmp 1 p1) (hd : Dc bytes p1 (.ifCond .lt o) 3 nx) (ht : (p1 : Int) + o = (tg : Nat)) (h1 : x.toInt < z.toInt → Go C tg L S H cells slots) (h2 : z.toInt ≤ x.toInt → Go C nx L S H cells slots) : Go C pc L (.long z :: .long x :: S) H cells slots :=
  go_lcmp hd1 (go_iflt hd ht (fun q => h1 (by have := lcm_lt x z; omega)) (fun q => h2 (by have := lcm_lt x z; omega)))
theorem go_lcge {o : Int} {x z : Int64} {p1 : Nat} (hd1 : Dc bytes pc .lcmp 1 p1) (hd : Dc bytes p1 (.ifCond .ge o) 3 nx) (ht : (p1 : Int) + o = (tg : Nat)) (h1 : z.toInt ≤ x.toInt → Go C tg L S H cells slots) (h2 : x.toInt < z.toInt → Go C nx L S H cells slots) : Go C pc L (.long z :: .long x :: S) H cells slots :=
  go_lcmp hd1 (go_ifge hd ht (fun q => h1 (by have := lcm_lt x z; omega)) (fun q => h2 (by have := lcm_lt x z; omega)))
theorem go_lcgt {o : Int} {x z : Int64} {p1 : Nat} (hd1 : Dc bytes pc .lcmp 1 p1) (hd : Dc bytes p1 (.ifCond .gt o) 3 nx) (ht : (p1 : Int) + o = (tg : Nat)) (h1 : z.toInt < x.toInt → Go C tg L S H cells slots) (h2 : x.toInt ≤ z.toInt → Go C nx L S H cells slots) : Go C pc L (.long z :: .long x :: S) H cells slots :=
  go_lcmp hd1 (go_ifgt hd ht (fun q => h1 (by have := lcm_gt x z; omega)) (fun q => h2 (by have := lcm_gt x z; omega)))
theorem go_lcle {o : Int} {x z : Int64} {p1 : Nat} (hd1 : Dc bytes pc .lcmp 1 p1) (hd : Dc bytes p1 (.ifCond .le o) 3 nx) (ht : (p1 : Int) + o = (tg : Nat)) (h1 : x.toInt ≤ z.toInt → Go C tg L S H cells slots) (h2 : z.toInt < x.toInt → Go C nx L S H cells slots) : Go C pc L (.long z :: .long x :: S) H cells slots :=
  go_lcmp hd1 (go_ifle hd ht (fun q => h1 (by have := lcm_gt x z; omega)) (fun q => h2 (by have := lcm_gt x z; omega)))
theorem go_acmp {cd : ACond} {o : Int} {v w : Value} {same : Bool} (hd : Dc bytes pc (.if_acmp cd o) 3 nx) (hv : v.isRef = true) (hw : w.isRef = true) (hs : decide (v = w) = same) (ht : (pc : Int) + o = (tg : Nat)) (h : Go C (if acV cd same = true then tg else nx) L S H cells slots) : Go C pc L (w :: v :: S) H cells slots :=
  go_pure (fun T _ _ _ X t k => by
    obtain ⟨hd, rfl⟩ := hd
    refine Jvm.RoadKit.acmp (g := frm b m pc L (w :: v :: S)) X C.exec rfl ((isRef_up b v).trans hv) ((isRef_up b w).trans hw) (pc0 := pc) (same := same) rfl (hb C.bys hd) rfl ?_ (by omega) (pc' := if acV cd same = true then tg else pc + 3) ?_ k
    · rw [← hs]
      have : upV b v = upV b w ↔ v = w := by
        constructor
        · intro q; cases v <;> cases w <;> simp_all [upV, Value.isRef]
        · intro q; rw [q]
      simp [this]
    · congr 1; omega) h
theorem go_ifnull_null {o : Int} (hd : Dc bytes pc (.ifnull o) 3 nx) (ht : (pc : Int) + o = (tg : Nat)) (h : Go C tg L S H cells slots) : Go C pc L (.null :: S) H cells slots :=
  go_pure (fun T _ _ _ X t k => XS.ifnullYes X.here C.exec rfl (pc0 := pc) (pc' := tg) rfl (hb C.bys hd.1) rfl (by omega) (by omega) k) h
theorem go_ifnull_ref {o : Int} {a : Nat} (hd : Dc bytes pc (.ifnull o) 3 nx) (h : Go C nx L S H cells slots) : Go C pc L (.ref a :: S) H cells slots :=
  go_pure (fun T _ _ _ X t k => by obtain ⟨hd, rfl⟩ := hd; exact XS.ifnullNo X.here C.exec rfl (hb C.bys hd) rfl k) h
theorem go_ifnonnull_ref {o : Int} {a : Nat} (hd : Dc bytes pc (.ifnonnull o) 3 nx) (ht : (pc : Int) + o = (tg : Nat)) (h : Go C tg L S H cells slots) : Go C pc L (.ref a :: S) H cells slots :=
  go_pure (fun T _ _ _ X t k => XT.ifnonnullYes X.here C.exec rfl (pc0 := pc) (pc' := tg) rfl (hb C.bys hd.1) rfl (by omega) (by omega) k) h
def oneS : Slot → Bool
  | .unset => true
  | .val v => v.category == 1
  | .second => false
def notL : Slot → Bool
  | .unset => true
  | .val v => v.category == 1
  | .second => true
theorem oneS_up {o : Slot} (h : oneS o = true) : upS b o = .unset ∨ ∃ w, upS b o = .val w ∧ w.category = 1 := by
  cases o with
  | unset => exact Or.inl rfl
  | second => cases h
  | val v => exact Or.inr ⟨_, rfl, (cat_up b v).trans (by simpa [oneS] using h)⟩
theorem set_up (k : Nat) (v : Value) : (L.map (upS b)).toArray.setIfInBounds k (.val (upV b v)) = ((L.set k (.val v)).map (upS b)).toArray := by
  simp [List.map_set, upS]
theorem sto1 {k : Nat} {o : Slot} {v : Value} (hk : L[k]? = some o) (ho : oneS o = true) (hv : v.category = 1) : storeLocals (L.map (upS b)).toArray k (upV b v) = some ((L.set k (.val v)).map (upS b)).toArray := by
  rw [XS.store1 (getL hk) (oneS_up ho) ((cat_up b v).trans hv), set_up]
theorem sto2 {k : Nat} {o o' : Slot} {x : Int64} (hk : L[k]? = some o) (hk' : L[k + 1]? = some o') (ho : oneS o = true ∨ ∃ z, o = .val (.long z)) (ho' : notL o' = true) : storeLocals (L.map (upS b)).toArray k (.long x) = some (((L.set k (.val (.long x))).set (k + 1) .second).map (upS b)).toArray := by
  obtain ⟨A, hA⟩ : ∃ A, A = (L.map (upS b)).toArray := ⟨_, rfl⟩
  have e0 := getL (b := b) hk
  have e1 := getL (b := b) hk'
  have fin : ((L.map (upS b)).toArray.setIfInBounds k (.val (.long x))).setIfInBounds (k + 1) .second = (((L.set k (.val (.long x))).set (k + 1) .second).map (upS b)).toArray := by
    simp [List.map_set, upS, upV]
  rw [← fin]
  rw [← hA] at e0 e1 ⊢
  clear hA fin
  have i0 : k < A.size := (Array.getElem?_eq_some_iff.mp e0).1
  have i1 : k + 1 < A.size := (Array.getElem?_eq_some_iff.mp e1).1
  have s1 : ∀ B : Array Slot, B.size = A.size → setAt B (k + 1) .second = some (B.setIfInBounds (k + 1) .second) := fun B hB => by simp [setAt, hB, i1]
  have self : ∀ (B : Array Slot) (u : Slot), B.size = A.size → B[k + 1]? = some u → (∀ w, u = .val w → w.category ≠ 2) → storeSelf B k (.long x) = some ((B.setIfInBounds k (.val (.long x))).setIfInBounds (k + 1) .second) := by
    intro B u hB hu hc
    have e2 : (B.setIfInBounds k (.val (.long x)))[k + 1]? = some u := by
      rw [Array.getElem?_setIfInBounds_ne (by omega)]; exact hu
    have e3 : setAt B k (.val (.long x)) = some (B.setIfInBounds k (.val (.long x))) := by simp [setAt, hB, i0]
    have e4 := s1 (B.setIfInBounds k (.val (.long x))) (by simp [hB])
    unfold storeSelf
    rw [e3]
    simp only [Option.bind_eq_bind, Option.bind_some, Value.category, if_true, e2]
    cases u with
    | unset => exact e4
    | second => exact e4
    | val w =>
      have := hc w rfl
      simp only [Value.category] at this
      simp only [this, if_false]
      exact e4
  have n1 : ∀ w, upS b o' = .val w → w.category ≠ 2 := by
    intro w hw
    cases o' with
    | unset => cases hw
    | second => cases hw
    | val v => cases hw; rw [cat_up]; intro q; simp [notL, q] at ho'
  rcases ho with ho | ⟨z, rfl⟩
  · have a1 := oneS_up (b := b) ho
    have step : storeLocals A k (.long x) = storeSelf A k (.long x) := by
      rcases a1 with a1 | ⟨w, a1, a2⟩
      · simp [storeLocals, e0, a1]
      · simp [storeLocals, e0, a1, a2]
    rw [step]
    exact self A _ rfl e1 n1
  · have step : storeLocals A k (.long x) = storeSelf (A.setIfInBounds (k + 1) .unset) k (.long x) := by
      have e3 : setAt A (k + 1) .unset = some (A.setIfInBounds (k + 1) .unset) := by simp [setAt, i1]
      unfold storeLocals
      rw [e0]
      simp only [upS, upV, Option.bind_eq_bind, Option.bind_some, Value.category, if_true, e3]
    rw [step, self (A.setIfInBounds (k + 1) .unset) .unset (by simp) (by simp [i1]) (fun w hw => by cases hw)]
    congr 1
    apply Array.ext_getElem?
    intro j
    simp only [Array.getElem?_setIfInBounds]
    by_cases q : k + 1 = j
    · subst q; simp
    · simp [q]
theorem go_istore {k : Nat} {o : Slot} {x : Int32} (hd : Dc bytes pc (.istore k) 2 nx) (hk : L[k]? = some o) (ho : oneS o = true) (h : Go C nx (L.set k (.val (.int x))) S H cells slots) : Go C pc L (.int x :: S) H cells slots :=
  go_pure (fun T _ _ _ X t r => by obtain ⟨hd, rfl⟩ := hd; exact XS.istore X.here C.exec rfl (hb C.bys hd) rfl (sto1 (v := .int x) hk ho rfl) r) h
theorem go_istoreN {k : Fin 4} {o : Slot} {x : Int32} (hd : Dc bytes pc (.istore_n k) 1 nx) (hk : L[k.val]? = some o) (ho : oneS o = true) (h : Go C nx (L.set k.val (.val (.int x))) S H cells slots) : Go C pc L (.int x :: S) H cells slots :=
  go_pure (fun T _ _ _ X t r => by obtain ⟨hd, rfl⟩ := hd; exact XS.istoreN X.here C.exec rfl (hb C.bys hd) rfl (sto1 (v := .int x) hk ho rfl) r) h
theorem cat_ref {v : Value} (h : v.isRef = true) : v.category = 1 := by cases v <;> first | rfl | cases h
theorem go_astore {k : Nat} {o : Slot} {v : Value} (hd : Dc bytes pc (.astore k) 2 nx) (hk : L[k]? = some o) (ho : oneS o = true) (hv : v.isRef = true) (h : Go C nx (L.set k (.val v)) S H cells slots) : Go C pc L (v :: S) H cells slots :=
  go_pure (fun T _ _ _ X t r => by obtain ⟨hd, rfl⟩ := hd; exact XS.astore X.here C.exec rfl (hb C.bys hd) rfl ((isRef_up b v).trans hv) (sto1 (v := v) hk ho (cat_ref hv)) r) h
theorem go_astoreN {k : Fin 4} {o : Slot} {v : Value} (hd : Dc bytes pc (.astore_n k) 1 nx) (hk : L[k.val]? = some o) (ho : oneS o = true) (hv : v.isRef = true) (h : Go C nx (L.set k.val (.val v)) S H cells slots) : Go C pc L (v :: S) H cells slots :=
  go_pure (fun T _ _ _ X t r => by obtain ⟨hd, rfl⟩ := hd; exact XS.astoreN X.here C.exec rfl (hb C.bys hd) rfl ((isRef_up b v).trans hv) (sto1 (v := v) hk ho (cat_ref hv)) r) h
theorem go_lstore {k : Nat} {o o' : Slot} {x : Int64} (hd : Dc bytes pc (.lstore k) 2 nx) (hk : L[k]? = some o) (hk' : L[k + 1]? = some o') (ho : oneS o = true ∨ ∃ z, o = .val (.long z)) (ho' : notL o' = true) (h : Go C nx ((L.set k (.val (.long x))).set (k + 1) .second) S H cells slots) : Go C pc L (.long x :: S) H cells slots :=
  go_pure (fun T _ _ _ X t r => by obtain ⟨hd, rfl⟩ := hd; exact XT.lstore X.here C.exec rfl (hb C.bys hd) rfl (sto2 hk hk' ho ho') r) h
theorem go_lstoreN {k : Fin 4} {o o' : Slot} {x : Int64} (hd : Dc bytes pc (.lstore_n k) 1 nx) (hk : L[k.val]? = some o) (hk' : L[k.val + 1]? = some o') (ho : oneS o = true ∨ ∃ z, o = .val (.long z)) (ho' : notL o' = true) (h : Go C nx ((L.set k.val (.val (.long x))).set (k.val + 1) .second) S H cells slots) : Go C pc L (.long x :: S) H cells slots :=
  go_pure (fun T _ _ _ X t r => by obtain ⟨hd, rfl⟩ := hd; exact XT.lstoreN X.here C.exec rfl (hb C.bys hd) rfl (sto2 hk hk' ho ho') r) h
theorem go_iinc {k : Nat} {i : Int} {x z : Int32} (hd : Dc bytes pc (.iinc k i) 3 nx) (hk : L[k]? = some (.val (.int x))) (hz : Int32.ofInt i = z) (h : Go C nx (L.set k (.val (.int (x + z)))) S H cells slots) : Go C pc L S H cells slots :=
  go_pure (fun T _ _ _ X t r => by obtain ⟨hd, rfl⟩ := hd; subst hz; exact XS.iinc X.here C.exec rfl (hb C.bys hd) (getL hk) (sto1 (v := .int (x + Int32.ofInt i)) hk rfl rfl) r) h
/-! ### the heap -/
theorem cell_arr {i : Nat} {ty : FieldType} {vs : List Value} {h : Heap} (RR : Rel Z a0 b H h) (hH : H[i]? = some (ar ty vs)) : ∃ c : Cell, Arr Z h (b + i) c ty ∧ c.slots = (vs.map (upV b)).toArray := RR.2 i _ hH
theorem idx_ok {j : Int32} {k n : Nat} (hj : j.toInt = (k : Int)) (hk : k < n) : ¬ (j < 0 ∨ n ≤ j.toNatClampNeg) := by
  rw [Int32.lt_iff_toInt_lt]
  have e0 : (0 : Int32).toInt = 0 := rfl
  simp only [Int32.toNatClampNeg, hj, e0]
  omega
theorem clamp_eq {j : Int32} {k : Nat} (hj : j.toInt = (k : Int)) : j.toNatClampNeg = k := by simp [Int32.toNatClampNeg, hj]
theorem go_iaload {i k : Nat} {vs : List Value} {j : Int32} {v : Value} (hd : Dc bytes pc .iaload 1 nx) (hH : H[i]? = some (ar .int vs)) (hj : j.toInt = (k : Int)) (hv : vs[k]? = some v) (h : Go C nx L (v :: S) H cells slots) : Go C pc L (.int j :: .ref i :: S) H cells slots := by
  intro T locs X N RR
  obtain ⟨c1, A, e1⟩ := cell_arr RR hH
  obtain ⟨hd, rfl⟩ := hd
  have hk : k < vs.length := (List.getElem?_eq_some_iff.mp hv).1
  exact (h T locs X N RR).back fun t r => X.iaload C.exec A.1 (State.isArrayOf_alike C.warm.alike A.2.1) A.2.2 (idx_ok hj (by rw [e1]; simpa using hk)) (by rw [clamp_eq hj, e1]; simp [hv]) (g := frm b m pc L (.int j :: .ref i :: S)) rfl rfl (hb C.bys hd) t r
theorem go_laload {i k : Nat} {vs : List Value} {j : Int32} {v : Value} (hd : Dc bytes pc .laload 1 nx) (hH : H[i]? = some (ar .long vs)) (hj : j.toInt = (k : Int)) (hv : vs[k]? = some v) (h : Go C nx L (v :: S) H cells slots) : Go C pc L (.int j :: .ref i :: S) H cells slots := by
  intro T locs X N RR
  obtain ⟨c1, A, e1⟩ := cell_arr RR hH
  obtain ⟨hd, rfl⟩ := hd
  have hk : k < vs.length := (List.getElem?_eq_some_iff.mp hv).1
  exact (h T locs X N RR).back fun t r => X.laload C.exec A.1 (State.isArrayOf_alike C.warm.alike A.2.1) A.2.2 (idx_ok hj (by rw [e1]; simpa using hk)) (by rw [clamp_eq hj, e1]; simp [hv]) (g := frm b m pc L (.int j :: .ref i :: S)) rfl rfl (hb C.bys hd) t r
theorem go_baload {i k : Nat} {vs : List Value} {j : Int32} {v : Value} (hd : Dc bytes pc .baload 1 nx) (hH : H[i]? = some (ar .byte vs)) (hj : j.toInt = (k : Int)) (hv : vs[k]? = some v) (h : Go C nx L (v :: S) H cells slots) : Go C pc L (.int j :: .ref i :: S) H cells slots := by
  intro T locs X N RR
  obtain ⟨c1, A, e1⟩ := cell_arr RR hH
  obtain ⟨hd, rfl⟩ := hd
  have hk : k < vs.length := (List.getElem?_eq_some_iff.mp hv).1
  exact (h T locs X N RR).back fun t r => X.baloadBytes C.exec A.1 (State.isArrayOf_alike C.warm.alike A.2.1) A.2.2 (idx_ok hj (by rw [e1]; simpa using hk)) (by rw [clamp_eq hj, e1]; simp [hv]) (g := frm b m pc L (.int j :: .ref i :: S)) rfl rfl (hb C.bys hd) t r
theorem go_zaload {i k : Nat} {vs : List Value} {j : Int32} {v : Value} (hd : Dc bytes pc .baload 1 nx) (hH : H[i]? = some (ar .boolean vs)) (hj : j.toInt = (k : Int)) (hv : vs[k]? = some v) (h : Go C nx L (v :: S) H cells slots) : Go C pc L (.int j :: .ref i :: S) H cells slots := by
  intro T locs X N RR
  obtain ⟨c1, A, e1⟩ := cell_arr RR hH
  obtain ⟨hd, rfl⟩ := hd
  have hk : k < vs.length := (List.getElem?_eq_some_iff.mp hv).1
  exact (h T locs X N RR).back fun t r => X.baloadBooleans C.exec A.1 (State.isArrayOf_alike C.warm.alike A.2.1) A.2.2 (idx_ok hj (by rw [e1]; simpa using hk)) (by rw [clamp_eq hj, e1]; simp [hv]) (g := frm b m pc L (.int j :: .ref i :: S)) rfl rfl (hb C.bys hd) t r
theorem go_aaload {i k : Nat} {ty : FieldType} {vs : List Value} {j : Int32} {v : Value} (hd : Dc bytes pc .aaload 1 nx) (hH : H[i]? = some (ar ty vs)) (hty : ty.isReference = true) (hj : j.toInt = (k : Int)) (hv : vs[k]? = some v) (h : Go C nx L (v :: S) H cells slots) : Go C pc L (.int j :: .ref i :: S) H cells slots := by
  intro T locs X N RR
  obtain ⟨c1, A, e1⟩ := cell_arr RR hH
  obtain ⟨hd, rfl⟩ := hd
  have hk : k < vs.length := (List.getElem?_eq_some_iff.mp hv).1
  exact (h T locs X N RR).back fun t r => X.aaload C.exec A.1 (State.isArrayOf_alike C.warm.alike A.2.1) hty A.2.2 (idx_ok hj (by rw [e1]; simpa using hk)) (by rw [clamp_eq hj, e1]; simp [hv]) (g := frm b m pc L (.int j :: .ref i :: S)) rfl rfl (hb C.bys hd) t r
theorem go_len {i : Nat} {ty : FieldType} {vs : List Value} {n : Int32} (hd : Dc bytes pc .arraylength 1 nx) (hH : H[i]? = some (ar ty vs)) (hn : vs.length.toInt32 = n) (h : Go C nx L (.int n :: S) H cells slots) : Go C pc L (.ref i :: S) H cells slots := by
  intro T locs X N RR
  obtain ⟨c1, A, e1⟩ := cell_arr RR hH
  obtain ⟨hd, rfl⟩ := hd
  subst hn
  refine (h T locs X N RR).back fun t k => X.arraylength C.exec A.1 (State.isArrayOf_alike C.warm.alike A.2.1) (g := frm b m pc L (.ref i :: S)) rfl rfl (hb C.bys hd) t ?_
  have e2 : c1.slots.size = vs.length := by rw [e1]; simp
  rw [e2]
  exact k
theorem go_getfield {i j idx : Nat} {Cn n d : String} {fs : List (String × String × Value)} {v : Value} (hd : Dc bytes pc (.getfield idx) 3 nx) (w : Jvm.Cond.fieldLink y.cls idx Cn n d ∈ W) (hH : H[i]? = some (ob Cn fs)) (hf : fs[j]? = some (n, d, v)) (h : Go C nx L (v :: S) H cells slots) : Go C pc L (.ref i :: S) H cells slots := by
  intro T locs X N RR
  obtain ⟨hd, rfl⟩ := hd
  have K : CellOk Z a0 b T.heap (b + i) (ob Cn fs) := RR.2 i _ hH
  obtain ⟨T1, X1, e1, st⟩ := getF X C.exec C.warm C.own (host := "") (Or.inl (C.hw _ w)) Via.refl rfl (K.2.1 _ (List.mem_of_getElem? hf)).1 (g := frm b m pc L (.ref i :: S)) rfl rfl (hb C.bys hd)
  exact (h T1 locs X1 N (by rw [e1]; exact RR)).back st
theorem go_getfieldN {i j idx : Nat} {Cn n d host : String} {fs : List (String × String × Value)} {v : Value} (hd : Dc bytes pc (.getfield idx) 3 nx) (w : Jvm.Cond.fieldLinkNest y.cls idx Cn n d host ∈ W) (hH : H[i]? = some (ob Cn fs)) (hf : fs[j]? = some (n, d, v)) (h : Go C nx L (v :: S) H cells slots) : Go C pc L (.ref i :: S) H cells slots := by
  intro T locs X N RR
  obtain ⟨hd, rfl⟩ := hd
  have K : CellOk Z a0 b T.heap (b + i) (ob Cn fs) := RR.2 i _ hH
  obtain ⟨T1, X1, e1, st⟩ := getF X C.exec C.warm C.own (Or.inr (C.hw _ w)) Via.refl rfl (K.2.1 _ (List.mem_of_getElem? hf)).1 (g := frm b m pc L (.ref i :: S)) rfl rfl (hb C.bys hd)
  exact (h T1 locs X1 N (by rw [e1]; exact RR)).back st
theorem go_putfieldN {i j idx kk : Nat} {Cn n d : String} {fs : List (String × String × Value)} {v v' o : Value} {ty : FieldType} (hd : Dc bytes pc (.putfield idx) 3 nx) (w : Jvm.Cond.fieldLink y.cls idx Cn n d ∈ W) (wl : Jvm.Cond.lays Cn Cn n d ∈ W ∨ (Jvm.Cond.laysFinal Cn Cn n d ∈ W ∧ y.cls = Cn ∧ y.name = "<init>")) (wi : Jvm.Cond.instantiable Cn kk ∈ W) (hty : parseFieldDescriptor d = some ty) (hH : H[i]? = some (ob Cn fs)) (hf : fs[j]? = some (n, d, o)) (hn : narrow ty (upV b v) = upV b v') (hfit : fits ty (upV b v') = true)
    (h : Go C nx L S (H.set i (ob Cn (fs.set j (n, d, v')))) cells slots) : Go C pc L (v :: .ref i :: S) H cells slots := by
  intro T locs X N RR
  obtain ⟨hd, rfl⟩ := hd
  have K : CellOk Z a0 b T.heap (b + i) (ob Cn fs) := RR.2 i _ hH
  obtain ⟨T1, h1, X1, e1, W1, st⟩ := putFN X C.exec C.warm C.own (C.hw _ w) Via.refl rfl (K.2.1 _ (List.mem_of_getElem? hf)).1 K.1 (wl.imp (fun q => C.hw _ q) (fun q => ⟨C.hw _ q.1, q.2.1, C.named.trans q.2.2⟩)) (C.hw _ wi) hty hn hfit (g := frm b m pc L (v :: .ref i :: S)) rfl rfl (hb C.bys hd)
  exact (h T1 _ X1 (Fr.snoc X1 N (Nat.le_add_right ..)) (by rw [e1]; exact RR.wr W1 (K.fset hf W1))).back st
theorem go_putfield {i j idx kk : Nat} {Cn n d : String} {fs : List (String × String × Value)} {v o : Value} {ty : FieldType} (hd : Dc bytes pc (.putfield idx) 3 nx) (w : Jvm.Cond.fieldLink y.cls idx Cn n d ∈ W) (wl : Jvm.Cond.lays Cn Cn n d ∈ W ∨ (Jvm.Cond.laysFinal Cn Cn n d ∈ W ∧ y.cls = Cn ∧ y.name = "<init>")) (wi : Jvm.Cond.instantiable Cn kk ∈ W) (hty : parseFieldDescriptor d = some ty) (hH : H[i]? = some (ob Cn fs)) (hf : fs[j]? = some (n, d, o)) (hn : narrow ty (upV b v) = upV b v) (hfit : fits ty (upV b v) = true)
    (h : Go C nx L S (H.set i (ob Cn (fs.set j (n, d, v)))) cells slots) : Go C pc L (v :: .ref i :: S) H cells slots := go_putfieldN hd w wl wi hty hH hf hn hfit h
theorem go_iastore {i k : Nat} {vs : List Value} {j : Int32} {x : Int32} (hd : Dc bytes pc .iastore 1 nx) (hH : H[i]? = some (ar .int vs)) (hj : j.toInt = (k : Int)) (hk : k < vs.length) (h : Go C nx L S (H.set i (ar .int (vs.set k (.int (x))))) cells slots) : Go C pc L (.int x :: .int j :: .ref i :: S) H cells slots := by
  intro T locs X N RR
  obtain ⟨c1, A, e1⟩ := cell_arr RR hH
  obtain ⟨hd, rfl⟩ := hd
  obtain ⟨T1, h1, X1, eh, W1, st⟩ := stI X C.exec C.warm rfl A (j := j) (idx_ok hj (by rw [e1]; simpa using hk)) (g := frm b m pc L (.int x :: .int j :: .ref i :: S)) rfl rfl (hb C.bys hd)
  rw [clamp_eq hj] at W1
  have K : CellOk Z a0 b h1 (b + i) (ar .int (vs.set k (.int (x)))) := ⟨_, A.same W1, by simp [Cell.setSlot, e1, List.map_set, upV, nar]⟩
  exact (h T1 _ X1 (Fr.snoc X1 N (Nat.le_add_right ..)) (by rw [eh]; exact RR.wr W1 K)).back st
theorem go_lastore {i k : Nat} {vs : List Value} {j : Int32} {x : Int64} (hd : Dc bytes pc .lastore 1 nx) (hH : H[i]? = some (ar .long vs)) (hj : j.toInt = (k : Int)) (hk : k < vs.length) (h : Go C nx L S (H.set i (ar .long (vs.set k (.long (x))))) cells slots) : Go C pc L (.long x :: .int j :: .ref i :: S) H cells slots := by
  intro T locs X N RR
  obtain ⟨c1, A, e1⟩ := cell_arr RR hH
  obtain ⟨hd, rfl⟩ := hd
  obtain ⟨T1, h1, X1, eh, W1, st⟩ := stJ X C.exec C.warm rfl A (j := j) (idx_ok hj (by rw [e1]; simpa using hk)) (g := frm b m pc L (.long x :: .int j :: .ref i :: S)) rfl rfl (hb C.bys hd)
  rw [clamp_eq hj] at W1
  have K : CellOk Z a0 b h1 (b + i) (ar .long (vs.set k (.long (x)))) := ⟨_, A.same W1, by simp [Cell.setSlot, e1, List.map_set, upV, nar]⟩
  exact (h T1 _ X1 (Fr.snoc X1 N (Nat.le_add_right ..)) (by rw [eh]; exact RR.wr W1 K)).back st
theorem go_bastore {i k : Nat} {vs : List Value} {j : Int32} {x : Int32} (hd : Dc bytes pc .bastore 1 nx) (hH : H[i]? = some (ar .byte vs)) (hj : j.toInt = (k : Int)) (hk : k < vs.length) (h : Go C nx L S (H.set i (ar .byte (vs.set k (.int (x.toInt8.toInt32))))) cells slots) : Go C pc L (.int x :: .int j :: .ref i :: S) H cells slots := by
  intro T locs X N RR
  obtain ⟨c1, A, e1⟩ := cell_arr RR hH
  obtain ⟨hd, rfl⟩ := hd
  obtain ⟨T1, h1, X1, eh, W1, st⟩ := stB X C.exec C.warm rfl A (j := j) (idx_ok hj (by rw [e1]; simpa using hk)) (g := frm b m pc L (.int x :: .int j :: .ref i :: S)) rfl rfl (hb C.bys hd)
  rw [clamp_eq hj] at W1
  have K : CellOk Z a0 b h1 (b + i) (ar .byte (vs.set k (.int (x.toInt8.toInt32)))) := ⟨_, A.same W1, by simp [Cell.setSlot, e1, List.map_set, upV, nar]⟩
  exact (h T1 _ X1 (Fr.snoc X1 N (Nat.le_add_right ..)) (by rw [eh]; exact RR.wr W1 K)).back st
theorem go_zastore {i k : Nat} {vs : List Value} {j : Int32} {x : Int32} (hd : Dc bytes pc .bastore 1 nx) (hH : H[i]? = some (ar .boolean vs)) (hj : j.toInt = (k : Int)) (hk : k < vs.length) (h : Go C nx L S (H.set i (ar .boolean (vs.set k (.int (x &&& 1))))) cells slots) : Go C pc L (.int x :: .int j :: .ref i :: S) H cells slots := by
  intro T locs X N RR
  obtain ⟨c1, A, e1⟩ := cell_arr RR hH
  obtain ⟨hd, rfl⟩ := hd
  obtain ⟨T1, h1, X1, eh, W1, st⟩ := stZ X C.exec C.warm rfl A (j := j) (idx_ok hj (by rw [e1]; simpa using hk)) (g := frm b m pc L (.int x :: .int j :: .ref i :: S)) rfl rfl (hb C.bys hd)
  rw [clamp_eq hj] at W1
  have K : CellOk Z a0 b h1 (b + i) (ar .boolean (vs.set k (.int (x &&& 1)))) := ⟨_, A.same W1, by simp [Cell.setSlot, e1, List.map_set, upV, nar]⟩
  exact (h T1 _ X1 (Fr.snoc X1 N (Nat.le_add_right ..)) (by rw [eh]; exact RR.wr W1 K)).back st
/-- the fields of a new object, laid -/
def Laids (Z : State) (a0 : Array Value) (b : Nat) (Cn : String) : List (String × String × Value) → Prop
  | [] => True
  | f :: fs => (Laid Z a0 Cn Cn f.1 f.2.1 ∧ ∃ t, parseFieldDescriptor f.2.1 = some t ∧ defaultValue t = upV b f.2.2) ∧ Laids Z a0 b Cn fs
theorem Laids.all {Cn : String} : ∀ {fs : List (String × String × Value)}, Laids Z a0 b Cn fs → ∀ f ∈ fs, Laid Z a0 Cn Cn f.1 f.2.1 ∧ ∃ t, parseFieldDescriptor f.2.1 = some t ∧ defaultValue t = upV b f.2.2
  | [], _, f, hf => by cases hf
  | g :: gs, h, f, hf => by
    rcases List.mem_cons.mp hf with rfl | hf
    · exact h.1
    · exact Laids.all h.2 f hf
theorem go_new {idx n : Nat} {Cn : String} {fs : List (String × String × Value)} (hd : Dc bytes pc (.new idx) 3 nx) (w : Jvm.Cond.classLink y.cls idx Cn ∈ W) (wi : Jvm.Cond.instantiable Cn n ∈ W) (wz : Jvm.Cond.initialized Cn ∈ W) (hl : Laids Z a0 b Cn fs) (hnd : (fs.map (·.1)).Nodup) (hc : cells + 1 ≤ R.cells) (hs : slots + n ≤ R.slots)
    (h : Go C nx L (.ref H.length :: S) (H ++ [ob Cn fs]) (cells + 1) (slots + n)) : Go C pc L S H cells slots := by
  intro T locs X N RR
  obtain ⟨hd, rfl⟩ := hd
  obtain ⟨vm', cC, kC, h1, h2, h3, h4, X', st⟩ := X.newCold C.exec C.own (mv C.warm (C.hw _ w)) (mv C.warm (C.hw _ wi)) (mv C.warm (C.hw _ wz)) (g := frm b m pc L S) rfl (hb C.bys hd) hc hs
  rw [C.warm.alike.findClass] at h1
  obtain ⟨kZ, z1, -⟩ := Vm.findClass_spec h1
  obtain ⟨k', z2, z3⟩ := C.warm.alike.2.2 _ _ z1
  cases h2.symm.trans z2
  have ei : kC.instanceTypes = kZ.instanceTypes := by rw [z3]
  have hN : (T.heap.push { cls := cC, slots := kC.instanceTypes.map defaultValue, vm := .none })[T.heap.size]? = some { cls := cC, slots := kC.instanceTypes.map defaultValue, vm := .none } := by simp
  have hE : Ext T.heap (T.heap.push { cls := cC, slots := kC.instanceTypes.map defaultValue, vm := .none }) := ⟨by simp, fun a c q => by
    rw [Array.getElem?_push_lt (Array.getElem?_eq_some_iff.mp q).1]; exact (Array.getElem?_eq_getElem _).symm.trans q⟩
  have ea : T.heap.size = b + H.length := RR.1
  have st2 := st
  rw [ea] at st2
  refine (h _ locs X' N (RR.push hE (by simp) ?_)).back st2
  rw [← ea]
  refine ⟨⟨_, kZ, hN, h1, z1, rfl, fun _ => by simp [ei]⟩, fun f hf => ?_, hnd⟩
  obtain ⟨La, t, ht, hdv⟩ := hl.all f hf
  refine ⟨?_, La, t, ht⟩
  obtain ⟨c1, k1, cf, kf, i, ff, a1, a2, a3, a4, a5, a6, -⟩ := La.spec
  cases h1.symm.trans a1
  cases z1.symm.trans a2
  exact ⟨_, cf, kf, i, ff, hN, a3, a4, by simp, rfl, a5, by simp [ei, a6, (State.fieldFound?_type a3 ht).2, hdv]⟩
theorem up_default (t : FieldType) : upV b (defaultValue t) = defaultValue t := by cases t <;> rfl
theorem go_newarray {aty : ArrayType} {n : Int32} {k cap : Nat} {vs : List Value} (hd : Dc bytes pc (.newarray aty) 2 nx) (w : Jvm.Cond.arrayClass (newarray.typeOf aty) ∈ W) (hn : n.toInt = (k : Int)) (hv : List.replicate k (defaultValue (newarray.typeOf aty)) = vs) (hcap : k ≤ cap) (hbig : cap * 8 ≤ 536870912) (hc : cells + 1 ≤ R.cells) (hs : slots + cap ≤ R.slots)
    (h : Go C nx L (.ref H.length :: S) (H ++ [ar (newarray.typeOf aty) vs]) (cells + 1) (slots + cap)) : Go C pc L (.int n :: S) H cells slots := by
  intro T locs X N RR
  obtain ⟨hd, rfl⟩ := hd
  have hcb : componentBytes (newarray.typeOf aty) ≤ 8 := by cases aty <;> decide
  have ek := clamp_eq hn
  obtain ⟨cA, kA, comp, h1, h2, h3, X', st⟩ := X.newarrayPrim C.exec (mvA C.warm (C.hw _ w)) (g := frm b m pc L (.int n :: S)) rfl (hb C.bys hd) rfl (by rw [Int32.lt_iff_toInt_lt, hn]; have : (0 : Int32).toInt = 0 := rfl; omega) (by rw [ek]; exact Nat.le_trans (Nat.mul_le_mul hcap hcb) hbig) hc (by omega)
  rw [ek] at X' st
  rw [C.warm.alike.findClass] at h1
  obtain ⟨kZ, z1, -⟩ := Vm.findClass_spec h1
  obtain ⟨k', z2, z3⟩ := C.warm.alike.2.2 _ _ z1
  cases h2.symm.trans z2
  have ea : T.heap.size = b + H.length := RR.1
  have hE : Ext T.heap (T.heap.push { cls := cA, slots := Array.replicate k (defaultValue (newarray.typeOf aty)), vm := .none }) := ⟨by simp, fun a c q => by
    rw [Array.getElem?_push_lt (Array.getElem?_eq_some_iff.mp q).1]; exact (Array.getElem?_eq_getElem _).symm.trans q⟩
  have st2 := st
  rw [ea] at st2
  refine (h _ locs (X'.more (Nat.le_refl _) (by omega)) N (RR.push hE (by simp) ?_)).back st2
  rw [← ea]
  refine ⟨_, ⟨by show (T.heap.push _)[T.heap.size]? = _; simp; rfl, ⟨by simp, kZ, z1, comp, by rw [← h3, z3]⟩, by simp⟩, ?_⟩
  subst hv
  simp [up_default]
/-! ### calls -/
theorem go_initO {idx : Nat} (hd : Dc bytes pc (.invokespecial idx) 3 nx) (w1 : Jvm.Cond.methodLink y.cls idx Lib.objectInit ∈ W) (w2 : Jvm.Cond.instanceMethod Lib.objectInit ∈ W) (w3 : Jvm.Cond.code Lib.objectInit ⟨#[0xb1]⟩ 1 none ∈ W) (hL : L.length = nL) (hf : 1 ≤ R.frames) (wdt : Nat) (hwd : (S.map Value.category).sum ≤ wdt) (hlo : wdt + 12 ≤ R.locals) {i : Nat}
    (h : Go C nx L S H cells slots) : Go C pc L (.ref i :: S) H cells slots := by
  intro T locs X N RR
  obtain ⟨hd, rfl⟩ := hd
  obtain ⟨T1, X1, e1, st⟩ := initO X C.exec C.warm C.own (C.hw _ w1) (C.hw _ w2) (C.hw _ w3) rfl (g := frm b m pc L (.ref i :: S)) rfl (by simp [C.ml, hL]) rfl (hb C.bys hd) hf (W := wdt) (by
    have : ((S.map (upV b)).map fun v => v.category) = S.map Value.category := by rw [List.map_map]; exact List.map_congr_left fun v _ => cat_up b v
    show 2 * 0 + ((S.map (upV b)).map fun v => v.category).sum ≤ wdt
    rw [this]; omega) hlo
  exact (h T1 locs X1 N (by rw [e1]; exact RR)).back st
theorem wid_up (wdt : Nat) (hwd : (S.map Value.category).sum ≤ wdt) : 2 * 0 + ((S.map (upV b)).map fun v => v.category).sum ≤ wdt := by
  have : ((S.map (upV b)).map fun v => v.category) = S.map Value.category := by rw [List.map_map]; exact List.map_congr_left fun v _ => cat_up b v
  rw [this]; omega
theorem app_up (v : Option Value) : (v.map (upV b)).toList ++ S.map (upV b) = (v.toList ++ S).map (upV b) := by cases v <;> rfl
theorem go_virtual {y' : MethodName} {bytes' : ByteArray} {maxL : Nat} {ret' : Option FieldType} {rm : Room} {as : List Value} {i idx : Nat} {Cn : String} {fs : List (String × String × Value)} {P : Option Value → List GCell → Prop} {ps : List FieldType} {rt : Option FieldType}
    (hd : Dc bytes pc (.invokevirtual idx) 3 nx) (w1 : Jvm.Cond.methodLink y.cls idx y' ∈ W) (w2 : Jvm.Cond.declares y' ∈ W) (w3 : Jvm.Cond.selects Cn y' y' ∈ W) (w4 : Jvm.Cond.instanceMethod y' ∈ W) (w5 : Jvm.Cond.code y' bytes' maxL ret' ∈ W) (w6 : Jvm.Cond.initialized y'.cls ∈ W)
    (hy : y'.cls ≠ "java/lang/invoke/MethodHandle" ∧ y'.cls ≠ "java/lang/invoke/VarHandle") (hdesc : parseMethodDescriptor y'.desc = some ⟨ps, rt⟩) (hlen : as.length = ps.length)
    (M : Met l Z a0 b y' bytes' maxL ret' rm (.ref i :: as) H P) (hH : H[i]? = some (ob Cn fs)) (hS : S' = as.reverse ++ .ref i :: S) (hL : L.length = nL) (wdt : Nat) (hwd : (S.map Value.category).sum ≤ wdt)
    (hfr : rm.frames + 1 ≤ R.frames) (hlo : wdt + (maxL + 11) + rm.locals ≤ R.locals) (hc : cells + rm.cells ≤ R.cells) (hs : slots + rm.slots ≤ R.slots)
    (h : ∀ v H', P v H' → Go C nx L (v.toList ++ S) H' (cells + rm.cells) (slots + rm.slots)) : Go C pc L S' H cells slots := by
  intro T locs X N RR
  obtain ⟨hd, rfl⟩ := hd
  subst hS
  have E : Exa Z T.heap (b + i) Cn := (show CellOk Z a0 b T.heap (b + i) (ob Cn fs) from RR.2 i _ hH).1
  obtain ⟨cB, kB, q1, q2, q3⟩ := isOf (T := T) C.warm rfl E
  obtain ⟨_, _, ⟨T', L', k', n'⟩, -, X', ⟨Lc, hQ, l', y1, z1⟩, st⟩ := X.virtualBack C.exec (y := y') (z := y') C.own (mvT C.warm (C.hw _ w1)) (mvT C.warm (C.hw _ w2)) (notFace_of_selects (args := #[]) (mvT C.warm (C.hw _ w3))) (mvT C.warm (C.hw _ w3)) (mvT C.warm (C.hw _ w4)) hy
    (backOf (W := wdt) (M T.heap RR []) C.warm (C.hw _ w5) (C.hw _ w6) hfr hlo) q1 q3 (g := frm b m pc L (as.reverse ++ .ref i :: S)) rfl (by simp [C.ml, hL]) (Steps.refl _) (argsL := as.map (upV b)) (rest := S.map (upV b)) (lenOf hdesc (by simp [hlen])) (by simp [upV]) (wid_up wdt hwd) (hb C.bys hd) (fun _ _ => ⟨by simp [upV], rfl, hc, hs⟩)
  dsimp only [Pt.U, Pt.locs, Pt.cells, Pt.slots] at X' l' y1 z1 st hQ
  subst l' y1 z1
  obtain ⟨N2, v', H', rfl, RR', hP⟩ := hQ
  refine (h v' H' hP T' _ X' (Fr.app N N2) RR').back fun t k => st.trans ?_
  rw [app_up]
  exact k
theorem go_special {y' : MethodName} {bytes' : ByteArray} {maxL : Nat} {rm : Room} {as : List Value} {i idx : Nat} {P : Option Value → List GCell → Prop} {ps : List FieldType} {rt : Option FieldType} (hn : y'.name = "<init>")
    (hd : Dc bytes pc (.invokespecial idx) 3 nx) (w1 : Jvm.Cond.methodLink y.cls idx y' ∈ W) (w4 : Jvm.Cond.instanceMethod y' ∈ W) (w5 : Jvm.Cond.code y' bytes' maxL none ∈ W) (w6 : Jvm.Cond.initialized y'.cls ∈ W)
    (hy : y'.cls ≠ "java/lang/invoke/MethodHandle" ∧ y'.cls ≠ "java/lang/invoke/VarHandle") (hdesc : parseMethodDescriptor y'.desc = some ⟨ps, rt⟩) (hlen : as.length = ps.length)
    (M : Met l Z a0 b y' bytes' maxL none rm (.ref i :: as) H P) (hS : S' = as.reverse ++ .ref i :: S) (hL : L.length = nL) (wdt : Nat) (hwd : (S.map Value.category).sum ≤ wdt)
    (hfr : rm.frames + 1 ≤ R.frames) (hlo : wdt + (maxL + 11) + rm.locals ≤ R.locals) (hc : cells + rm.cells ≤ R.cells) (hs : slots + rm.slots ≤ R.slots)
    (h : ∀ v H', P v H' → Go C nx L (v.toList ++ S) H' (cells + rm.cells) (slots + rm.slots)) : Go C pc L S' H cells slots := by
  intro T locs X N RR
  obtain ⟨hd, rfl⟩ := hd
  subst hS
  obtain ⟨_, _, ⟨T', L', k', n'⟩, -, X', ⟨Lc, hQ, l', y1, z1⟩, st⟩ := X.specialBack C.exec (y := y') hn C.own (mvT C.warm (C.hw _ w1)) (mvT C.warm (C.hw _ w4)) (mvT C.warm (C.hw _ w5)) hy
    (backOf (W := wdt) (M T.heap RR []) C.warm (C.hw _ w5) (C.hw _ w6) hfr hlo) (g := frm b m pc L (as.reverse ++ .ref i :: S)) rfl (by simp [C.ml, hL]) (Steps.refl _) (a := b + i) (argsL := as.map (upV b)) (rest := S.map (upV b)) (lenOf hdesc (by simp [hlen])) (by simp [upV]) (wid_up wdt hwd) (hb C.bys hd) (fun _ _ => ⟨by simp [upV], rfl, hc, hs⟩)
  dsimp only [Pt.U, Pt.locs, Pt.cells, Pt.slots] at X' l' y1 z1 st hQ
  subst l' y1 z1
  obtain ⟨N2, v', H', rfl, RR', hP⟩ := hQ
  refine (h v' H' hP T' _ X' (Fr.app N N2) RR').back fun t k => st.trans ?_
  rw [app_up]
  exact k
theorem go_static {y' : MethodName} {bytes' : ByteArray} {maxL : Nat} {ret' : Option FieldType} {rm : Room} {as : List Value} {idx : Nat} {P : Option Value → List GCell → Prop} {ps : List FieldType} {rt : Option FieldType}
    (hd : Dc bytes pc (.invokestatic idx) 3 nx) (w1 : Jvm.Cond.methodLink y.cls idx y' ∈ W) (w2 : Jvm.Cond.static y' ∈ W) (w5 : Jvm.Cond.code y' bytes' maxL ret' ∈ W) (w6 : Jvm.Cond.initialized y'.cls ∈ W)
    (hy : y'.cls ≠ "java/lang/invoke/MethodHandle" ∧ y'.cls ≠ "java/lang/invoke/VarHandle") (hdesc : parseMethodDescriptor y'.desc = some ⟨ps, rt⟩) (hlen : as.length = ps.length)
    (M : Met l Z a0 b y' bytes' maxL ret' rm as H P) (hS : S' = as.reverse ++ S) (hL : L.length = nL) (wdt : Nat) (hwd : (S.map Value.category).sum ≤ wdt)
    (hfr : rm.frames + 1 ≤ R.frames) (hlo : wdt + (maxL + 11) + rm.locals ≤ R.locals) (hc : cells + rm.cells ≤ R.cells) (hs : slots + rm.slots ≤ R.slots)
    (h : ∀ v H', P v H' → Go C nx L (v.toList ++ S) H' (cells + rm.cells) (slots + rm.slots)) : Go C pc L S' H cells slots := by
  intro T locs X N RR
  obtain ⟨hd, rfl⟩ := hd
  subst hS
  obtain ⟨_, _, ⟨T', L', k', n'⟩, -, X', ⟨Lc, hQ, l', y1, z1⟩, st⟩ := Jvm.LawKit.callS X C.exec (y := y') C.own (mvT C.warm (C.hw _ w1)) (mvT C.warm (C.hw _ w2)) (mvT C.warm (C.hw _ w6)) (mvT C.warm (C.hw _ w5)) hy
    (backOf (W := wdt) (M T.heap RR []) C.warm (C.hw _ w5) (C.hw _ w6) hfr hlo) (g := frm b m pc L (as.reverse ++ S)) rfl (by simp [C.ml, hL]) (argsL := as.map (upV b)) (rest := S.map (upV b)) (lenOf hdesc (by simp [hlen])) (by simp) (wid_up wdt hwd) (hb C.bys hd) (fun _ _ => ⟨by simp, rfl, hc, hs⟩)
  dsimp only [Pt.U, Pt.locs, Pt.cells, Pt.slots] at X' l' y1 z1 st hQ
  subst l' y1 z1
  obtain ⟨N2, v', H', rfl, RR', hP⟩ := hQ
  refine (h v' H' hP T' _ X' (Fr.app N N2) RR').back fun t k => st _ ?_
  rw [app_up]
  exact k
/-! ### the end -/
theorem go_ret {w w' : Value} {t : FieldType} {i : Instr} (hd : Dc bytes pc i 1 nx) (hret : ret = some t) (hn : narrow t (upV b w) = upV b w)
    (hi : (i = .ireturn ∧ (t = .int ∨ t = .boolean ∨ t = .byte ∨ t = .char ∨ t = .short) ∧ ∃ z, w = .int z) ∨ (i = .lreturn ∧ t = .long ∧ ∃ z, w = .long z) ∨ (i = .areturn ∧ t.isReference = true ∧ w.isRef = true))
    (hc : cells ≤ R.cells) (hs : slots ≤ R.slots) (h : Post (some w) H) : Go C pc L (w :: S) H cells slots := by
  intro T locs X N RR
  obtain ⟨fs, hr, hrun, hended, hW, hsame⟩ := X.leave (v := some (upV b w)) (fun q => by rw [C.rets, hret] at q; cases q) C.nolock
  refine ⟨_, _, retOut X C.exec (t := t) (i := i) (C.rets.trans hret) hn ?_ (hb C.bys hd.1) hr, hrun, hended, _, locs, rfl, ⟨N, some w, H, rfl, RR, h⟩, ⟨_, rfl⟩, hW, hsame.mono hc hs⟩
  rcases hi with ⟨h1, h2, z, rfl⟩ | ⟨h1, h2, z, rfl⟩ | ⟨h1, h2, h3⟩
  · exact Or.inl ⟨h1, h2, z, rfl⟩
  · exact Or.inr (Or.inl ⟨h1, h2, z, rfl⟩)
  · exact Or.inr (Or.inr (Or.inr (Or.inr ⟨h1, h2, (isRef_up b w).trans h3⟩)))
theorem go_ireturn {x : Int32} (hd : Dc bytes pc .ireturn 1 nx) (hret : ret = some .int) (hc : cells ≤ R.cells) (hs : slots ≤ R.slots) (h : Post (some (.int x)) H) : Go C pc L (.int x :: S) H cells slots :=
  go_ret (w' := .null) hd hret rfl (Or.inl ⟨rfl, Or.inl rfl, _, rfl⟩) hc hs h
theorem go_zreturn {x : Int32} (hd : Dc bytes pc .ireturn 1 nx) (hret : ret = some .boolean) (hz : x &&& 1 = x) (hc : cells ≤ R.cells) (hs : slots ≤ R.slots) (h : Post (some (.int x)) H) : Go C pc L (.int x :: S) H cells slots :=
  go_ret (w' := .null) hd hret (by show Value.int (x &&& 1) = .int x; rw [hz]) (Or.inl ⟨rfl, Or.inr (Or.inl rfl), _, rfl⟩) hc hs h
theorem go_breturn {x : Int32} (hd : Dc bytes pc .ireturn 1 nx) (hret : ret = some .byte) (hz : x.toInt8.toInt32 = x) (hc : cells ≤ R.cells) (hs : slots ≤ R.slots) (h : Post (some (.int x)) H) : Go C pc L (.int x :: S) H cells slots :=
  go_ret (w' := .null) hd hret (by show Value.int (x.toInt8.toInt32) = .int x; rw [hz]) (Or.inl ⟨rfl, Or.inr (Or.inr (Or.inl rfl)), _, rfl⟩) hc hs h
theorem go_lreturn {x : Int64} (hd : Dc bytes pc .lreturn 1 nx) (hret : ret = some .long) (hc : cells ≤ R.cells) (hs : slots ≤ R.slots) (h : Post (some (.long x)) H) : Go C pc L (.long x :: S) H cells slots :=
  go_ret (w' := .null) hd hret rfl (Or.inr (Or.inl ⟨rfl, rfl, _, rfl⟩)) hc hs h
theorem narrow_ref {t : FieldType} (ht : t.isReference = true) (v : Value) : narrow t v = v := by cases t <;> first | rfl | cases ht
theorem go_areturn {v : Value} {t : FieldType} (hd : Dc bytes pc .areturn 1 nx) (hret : ret = some t) (ht : t.isReference = true) (hv : v.isRef = true) (hc : cells ≤ R.cells) (hs : slots ≤ R.slots) (h : Post (some v) H) : Go C pc L (v :: S) H cells slots :=
  go_ret (w' := .null) hd hret (narrow_ref ht _) (Or.inr (Or.inr ⟨rfl, ht, hv⟩)) hc hs h
theorem go_return (hd : Dc bytes pc .return_ 1 nx) (hret : ret = none) (hc : cells ≤ R.cells) (hs : slots ≤ R.slots) (h : Post none H) : Go C pc L [] H cells slots := by
  intro T locs X N RR
  obtain ⟨fs, hr, hrun, hended, hW, hsame⟩ := X.leave (v := none) (fun _ => rfl) C.nolock
  exact ⟨_, _, X.returnOut C.exec (C.rets.trans hret) (hb C.bys hd.1) hr, hrun, hended, _, locs, rfl, ⟨N, none, H, rfl, RR, h⟩, ⟨_, rfl⟩, hW, hsame.mono hc hs⟩
def fillL : List Value → List Slot
  | [] => []
  | v :: vs => if v.category = 2 then .val v :: .second :: fillL vs else .val v :: fillL vs
def locs0 (as : List Value) (nL : Nat) : List Slot := fillL as ++ List.replicate (nL - (fillL as).length) .unset
theorem fill_foldl (as : List Value) : ∀ acc : Array Slot, (as.map (upV b)).foldl (fun acc v => if v.category = 2 then (acc.push (.val v)).push .second else acc.push (.val v)) acc = acc ++ ((fillL as).map (upS b)).toArray := by
  induction as with
  | nil => intro acc; simp [fillL]
  | cons v vs ih =>
    intro acc
    simp only [List.map_cons, List.foldl_cons, cat_up, fillL]
    by_cases q : v.category = 2
    · rw [if_pos q, if_pos q, ih]
      simp [upS, ← Array.toList_inj]
    · rw [if_neg q, if_neg q, ih]
      simp [upS, ← Array.toList_inj]
theorem entry_up (m : MethodId) (as : List Value) (nL : Nat) : entryFrame m (as.map (upV b)).toArray nL = frm b m 0 (locs0 as nL) [] := by
  have e := fill_foldl (b := b) as #[]
  have e1 : argsToLocals (as.map (upV b)).toArray nL = ((locs0 as nL).map (upS b)).toArray := by
    simp only [argsToLocals, List.foldl_toArray', List.size_toArray, List.foldl_toArray]
    rw [e]
    simp [locs0, upS, ← Array.toList_inj]
  simp [entryFrame, e1]
end Walk
theorem Met.of_go {l : Launch} {Z : State} {a0 : Array Value} {W : List Jvm.Cond} {b : Nat} {y : MethodName} {bytes : ByteArray} {nL : Nat} {ret : Option FieldType} {rm : Room} {as : List Value} {H : List GCell} {Post : Option Value → List GCell → Prop} (hw : ∀ d ∈ W, d.before a0 Z = true) (hp : plainFor y = true) {L0 : List Slot} (hL : locs0 as nL = L0)
    (body : ∀ p e s m args below meth c (C : Cx p l e rm s m args below meth c Z a0 W b y bytes nL ret Post), Go C 0 L0 [] H 0 0) : Met l Z a0 b y bytes nL ret rm as H Post := by
  intro h RR ws
  refine MetFree.of_bodySF hp hisR ?_
  intro p e s m args below meth c s₁ Bd hml0 hP hK
  obtain ⟨rfl, hZ, hh⟩ := hP
  have C : Cx p l e rm s m (as.map (upV b)).toArray below meth c Z a0 W b y bytes nL ret Post := ⟨Bd.exec, hZ, findClass_of_methodNamed Bd.named, Bd.bytes, hml0, Bd.returns, Bd.notSynchronized, (name_of_methodNamed Bd.named Bd.method).1, hw⟩
  have X0 : Stand p l e rm s m (as.map (upV b)).toArray below meth c s₁ [] 0 0 := Stand.of_body Bd
  have e0 : s₁.heap = h := by rw [← hh, Bd.state]; rfl
  have g := body p e s m _ below meth c C s₁ [] X0 (Fr.nil b) (by rw [e0]; exact RR)
  obtain ⟨s₂, o, hs, hr⟩ := g
  refine ⟨s₂, o, ?_, hr⟩
  rw [entry_up, hL]
  exact hs
section Places
variable {p : Program} {l : Launch} {e : Env} {R : Room} {s : State} {m : MethodId} {args : Array Value} {below : List Frame} {meth : Method} {c : Code} {Z : State} {a0 : Array Value} {W : List Jvm.Cond} {b : Nat} {y : MethodName} {bytes : ByteArray} {nL : Nat} {ret : Option FieldType} {Post : Option Value → List GCell → Prop} {C : Cx p l e R s m args below meth c Z a0 W b y bytes nL ret Post} {pc nx tg : Nat} {L L' : List Slot} {S S' : List Value} {H H' : List GCell} {cells slots : Nat}
theorem go_istore_1 {s0 o : Slot} {x : Int32} (hd : Dc bytes pc (.istore_n 1) 1 nx) (ho : oneS o = true) (h : Go C nx (s0 :: .val (.int x) :: L) S H cells slots) : Go C pc (s0 :: o :: L) (.int x :: S) H cells slots := go_istoreN hd rfl ho h
theorem go_istore_2 {s0 s1 o : Slot} {x : Int32} (hd : Dc bytes pc (.istore_n 2) 1 nx) (ho : oneS o = true) (h : Go C nx (s0 :: s1 :: .val (.int x) :: L) S H cells slots) : Go C pc (s0 :: s1 :: o :: L) (.int x :: S) H cells slots := go_istoreN hd rfl ho h
theorem go_iinc_2 {s0 s1 : Slot} {x z : Int32} {i : Int} (hd : Dc bytes pc (.iinc 2 i) 3 nx) (hz : Int32.ofInt i = z) (h : Go C nx (s0 :: s1 :: .val (.int (x + z)) :: L) S H cells slots) : Go C pc (s0 :: s1 :: .val (.int x) :: L) S H cells slots := go_iinc hd rfl hz h
theorem go_istore_3 {s0 s1 s2 o : Slot} {x : Int32} (hd : Dc bytes pc (.istore_n 3) 1 nx) (ho : oneS o = true) (h : Go C nx (s0 :: s1 :: s2 :: .val (.int x) :: L) S H cells slots) : Go C pc (s0 :: s1 :: s2 :: o :: L) (.int x :: S) H cells slots := go_istoreN hd rfl ho h
theorem go_istoreX_4 {s0 s1 s2 s3 o : Slot} {x : Int32} (hd : Dc bytes pc (.istore 4) 2 nx) (ho : oneS o = true) (h : ∀ x', x' = x → Go C nx (s0 :: s1 :: s2 :: s3 :: .val (.int x') :: L) S H cells slots) : Go C pc (s0 :: s1 :: s2 :: s3 :: o :: L) (.int x :: S) H cells slots := go_istore hd rfl ho (h x rfl)
theorem go_astore_4 {s0 s1 s2 s3 o : Slot} {v : Value} (hd : Dc bytes pc (.astore 4) 2 nx) (ho : oneS o = true) (hv : v.isRef = true) (h : Go C nx (s0 :: s1 :: s2 :: s3 :: .val v :: L) S H cells slots) : Go C pc (s0 :: s1 :: s2 :: s3 :: o :: L) (v :: S) H cells slots := go_astore hd rfl ho hv h
theorem go_istore_5 {s0 s1 s2 s3 s4 o : Slot} {x : Int32} (hd : Dc bytes pc (.istore 5) 2 nx) (ho : oneS o = true) (h : Go C nx (s0 :: s1 :: s2 :: s3 :: s4 :: .val (.int x) :: L) S H cells slots) : Go C pc (s0 :: s1 :: s2 :: s3 :: s4 :: o :: L) (.int x :: S) H cells slots := go_istore hd rfl ho h
theorem go_istoreX_5 {s0 s1 s2 s3 s4 o : Slot} {x : Int32} (hd : Dc bytes pc (.istore 5) 2 nx) (ho : oneS o = true) (h : ∀ x', x' = x → Go C nx (s0 :: s1 :: s2 :: s3 :: s4 :: .val (.int x') :: L) S H cells slots) : Go C pc (s0 :: s1 :: s2 :: s3 :: s4 :: o :: L) (.int x :: S) H cells slots := go_istore hd rfl ho (h x rfl)
theorem go_iinc_5 {s0 s1 s2 s3 s4 : Slot} {x z : Int32} {i : Int} (hd : Dc bytes pc (.iinc 5 i) 3 nx) (hz : Int32.ofInt i = z) (h : Go C nx (s0 :: s1 :: s2 :: s3 :: s4 :: .val (.int (x + z)) :: L) S H cells slots) : Go C pc (s0 :: s1 :: s2 :: s3 :: s4 :: .val (.int x) :: L) S H cells slots := go_iinc hd rfl hz h
theorem go_istore_6 {s0 s1 s2 s3 s4 s5 o : Slot} {x : Int32} (hd : Dc bytes pc (.istore 6) 2 nx) (ho : oneS o = true) (h : Go C nx (s0 :: s1 :: s2 :: s3 :: s4 :: s5 :: .val (.int x) :: L) S H cells slots) : Go C pc (s0 :: s1 :: s2 :: s3 :: s4 :: s5 :: o :: L) (.int x :: S) H cells slots := go_istore hd rfl ho h
theorem go_istoreX_6 {s0 s1 s2 s3 s4 s5 o : Slot} {x : Int32} (hd : Dc bytes pc (.istore 6) 2 nx) (ho : oneS o = true) (h : ∀ x', x' = x → Go C nx (s0 :: s1 :: s2 :: s3 :: s4 :: s5 :: .val (.int x') :: L) S H cells slots) : Go C pc (s0 :: s1 :: s2 :: s3 :: s4 :: s5 :: o :: L) (.int x :: S) H cells slots := go_istore hd rfl ho (h x rfl)
theorem go_astore_7 {s0 s1 s2 s3 s4 s5 s6 o : Slot} {v : Value} (hd : Dc bytes pc (.astore 7) 2 nx) (ho : oneS o = true) (hv : v.isRef = true) (h : Go C nx (s0 :: s1 :: s2 :: s3 :: s4 :: s5 :: s6 :: .val v :: L) S H cells slots) : Go C pc (s0 :: s1 :: s2 :: s3 :: s4 :: s5 :: s6 :: o :: L) (v :: S) H cells slots := go_astore hd rfl ho hv h
theorem go_astore_8 {s0 s1 s2 s3 s4 s5 s6 s7 o : Slot} {v : Value} (hd : Dc bytes pc (.astore 8) 2 nx) (ho : oneS o = true) (hv : v.isRef = true) (h : Go C nx (s0 :: s1 :: s2 :: s3 :: s4 :: s5 :: s6 :: s7 :: .val v :: L) S H cells slots) : Go C pc (s0 :: s1 :: s2 :: s3 :: s4 :: s5 :: s6 :: s7 :: o :: L) (v :: S) H cells slots := go_astore hd rfl ho hv h
theorem go_istore_9 {s0 s1 s2 s3 s4 s5 s6 s7 s8 o : Slot} {x : Int32} (hd : Dc bytes pc (.istore 9) 2 nx) (ho : oneS o = true) (h : Go C nx (s0 :: s1 :: s2 :: s3 :: s4 :: s5 :: s6 :: s7 :: s8 :: .val (.int x) :: L) S H cells slots) : Go C pc (s0 :: s1 :: s2 :: s3 :: s4 :: s5 :: s6 :: s7 :: s8 :: o :: L) (.int x :: S) H cells slots := go_istore hd rfl ho h
theorem go_iinc_9 {s0 s1 s2 s3 s4 s5 s6 s7 s8 : Slot} {x z : Int32} {i : Int} (hd : Dc bytes pc (.iinc 9 i) 3 nx) (hz : Int32.ofInt i = z) (h : Go C nx (s0 :: s1 :: s2 :: s3 :: s4 :: s5 :: s6 :: s7 :: s8 :: .val (.int (x + z)) :: L) S H cells slots) : Go C pc (s0 :: s1 :: s2 :: s3 :: s4 :: s5 :: s6 :: s7 :: s8 :: .val (.int x) :: L) S H cells slots := go_iinc hd rfl hz h
theorem go_istore_10 {s0 s1 s2 s3 s4 s5 s6 s7 s8 s9 o : Slot} {x : Int32} (hd : Dc bytes pc (.istore 10) 2 nx) (ho : oneS o = true) (h : Go C nx (s0 :: s1 :: s2 :: s3 :: s4 :: s5 :: s6 :: s7 :: s8 :: s9 :: .val (.int x) :: L) S H cells slots) : Go C pc (s0 :: s1 :: s2 :: s3 :: s4 :: s5 :: s6 :: s7 :: s8 :: s9 :: o :: L) (.int x :: S) H cells slots := go_istore hd rfl ho h
theorem go_astore_11 {s0 s1 s2 s3 s4 s5 s6 s7 s8 s9 s10 o : Slot} {v : Value} (hd : Dc bytes pc (.astore 11) 2 nx) (ho : oneS o = true) (hv : v.isRef = true) (h : Go C nx (s0 :: s1 :: s2 :: s3 :: s4 :: s5 :: s6 :: s7 :: s8 :: s9 :: s10 :: .val v :: L) S H cells slots) : Go C pc (s0 :: s1 :: s2 :: s3 :: s4 :: s5 :: s6 :: s7 :: s8 :: s9 :: s10 :: o :: L) (v :: S) H cells slots := go_astore hd rfl ho hv h
theorem go_istoreX_12 {s0 s1 s2 s3 s4 s5 s6 s7 s8 s9 s10 s11 o : Slot} {x : Int32} (hd : Dc bytes pc (.istore 12) 2 nx) (ho : oneS o = true) (h : ∀ x', x' = x → Go C nx (s0 :: s1 :: s2 :: s3 :: s4 :: s5 :: s6 :: s7 :: s8 :: s9 :: s10 :: s11 :: .val (.int x') :: L) S H cells slots) : Go C pc (s0 :: s1 :: s2 :: s3 :: s4 :: s5 :: s6 :: s7 :: s8 :: s9 :: s10 :: s11 :: o :: L) (.int x :: S) H cells slots := go_istore hd rfl ho (h x rfl)
theorem go_istore_13 {s0 s1 s2 s3 s4 s5 s6 s7 s8 s9 s10 s11 s12 o : Slot} {x : Int32} (hd : Dc bytes pc (.istore 13) 2 nx) (ho : oneS o = true) (h : Go C nx (s0 :: s1 :: s2 :: s3 :: s4 :: s5 :: s6 :: s7 :: s8 :: s9 :: s10 :: s11 :: s12 :: .val (.int x) :: L) S H cells slots) : Go C pc (s0 :: s1 :: s2 :: s3 :: s4 :: s5 :: s6 :: s7 :: s8 :: s9 :: s10 :: s11 :: s12 :: o :: L) (.int x :: S) H cells slots := go_istore hd rfl ho h
theorem go_astore_14 {s0 s1 s2 s3 s4 s5 s6 s7 s8 s9 s10 s11 s12 s13 o : Slot} {v : Value} (hd : Dc bytes pc (.astore 14) 2 nx) (ho : oneS o = true) (hv : v.isRef = true) (h : Go C nx (s0 :: s1 :: s2 :: s3 :: s4 :: s5 :: s6 :: s7 :: s8 :: s9 :: s10 :: s11 :: s12 :: s13 :: .val v :: L) S H cells slots) : Go C pc (s0 :: s1 :: s2 :: s3 :: s4 :: s5 :: s6 :: s7 :: s8 :: s9 :: s10 :: s11 :: s12 :: s13 :: o :: L) (v :: S) H cells slots := go_astore hd rfl ho hv h
theorem go_astore_15 {s0 s1 s2 s3 s4 s5 s6 s7 s8 s9 s10 s11 s12 s13 s14 o : Slot} {v : Value} (hd : Dc bytes pc (.astore 15) 2 nx) (ho : oneS o = true) (hv : v.isRef = true) (h : Go C nx (s0 :: s1 :: s2 :: s3 :: s4 :: s5 :: s6 :: s7 :: s8 :: s9 :: s10 :: s11 :: s12 :: s13 :: s14 :: .val v :: L) S H cells slots) : Go C pc (s0 :: s1 :: s2 :: s3 :: s4 :: s5 :: s6 :: s7 :: s8 :: s9 :: s10 :: s11 :: s12 :: s13 :: s14 :: o :: L) (v :: S) H cells slots := go_astore hd rfl ho hv h
theorem go_istore_16 {s0 s1 s2 s3 s4 s5 s6 s7 s8 s9 s10 s11 s12 s13 s14 s15 o : Slot} {x : Int32} (hd : Dc bytes pc (.istore 16) 2 nx) (ho : oneS o = true) (h : Go C nx (s0 :: s1 :: s2 :: s3 :: s4 :: s5 :: s6 :: s7 :: s8 :: s9 :: s10 :: s11 :: s12 :: s13 :: s14 :: s15 :: .val (.int x) :: L) S H cells slots) : Go C pc (s0 :: s1 :: s2 :: s3 :: s4 :: s5 :: s6 :: s7 :: s8 :: s9 :: s10 :: s11 :: s12 :: s13 :: s14 :: s15 :: o :: L) (.int x :: S) H cells slots := go_istore hd rfl ho h
theorem go_istore_17 {s0 s1 s2 s3 s4 s5 s6 s7 s8 s9 s10 s11 s12 s13 s14 s15 s16 o : Slot} {x : Int32} (hd : Dc bytes pc (.istore 17) 2 nx) (ho : oneS o = true) (h : Go C nx (s0 :: s1 :: s2 :: s3 :: s4 :: s5 :: s6 :: s7 :: s8 :: s9 :: s10 :: s11 :: s12 :: s13 :: s14 :: s15 :: s16 :: .val (.int x) :: L) S H cells slots) : Go C pc (s0 :: s1 :: s2 :: s3 :: s4 :: s5 :: s6 :: s7 :: s8 :: s9 :: s10 :: s11 :: s12 :: s13 :: s14 :: s15 :: s16 :: o :: L) (.int x :: S) H cells slots := go_istore hd rfl ho h
theorem go_static_1 {a1 : Value} {y' : MethodName} {bytes' : ByteArray} {maxL : Nat} {ret' : Option FieldType} {rm : Room} {idx : Nat} {P : Value → List GCell → Prop} {ps : List FieldType} {rt : Option FieldType} (hd : Dc bytes pc (.invokestatic idx) 3 nx) (w1 : Jvm.Cond.methodLink y.cls idx y' ∈ W) (w2 : Jvm.Cond.static y' ∈ W) (w5 : Jvm.Cond.code y' bytes' maxL ret' ∈ W) (w6 : Jvm.Cond.initialized y'.cls ∈ W) (hy : y'.cls ≠ "java/lang/invoke/MethodHandle" ∧ y'.cls ≠ "java/lang/invoke/VarHandle") (hdesc : parseMethodDescriptor y'.desc = some ⟨ps, rt⟩) (hlen : ps.length = 1)
    (M : Met l Z a0 b y' bytes' maxL ret' rm [a1] H (fun v H' => ∃ w, v = some w ∧ P w H')) (hL : L.length = nL) (wdt : Nat) (hwd : (S.map Value.category).sum = wdt) (hfr : rm.frames + 1 ≤ R.frames) (hlo : wdt + (maxL + 11) + rm.locals ≤ R.locals) (hc : cells + rm.cells ≤ R.cells) (hs : slots + rm.slots ≤ R.slots)
    (h : ∀ w H', P w H' → Go C nx L (w :: S) H' (cells + rm.cells) (slots + rm.slots)) : Go C pc L (a1 :: S) H cells slots :=
  go_static hd w1 w2 w5 w6 hy hdesc (as := [a1]) (by rw [hlen]; rfl) M rfl hL wdt (Nat.le_of_eq hwd) hfr hlo hc hs (fun v H' q => by obtain ⟨w, rfl, q⟩ := q; exact h w H' q)
theorem go_staticV_3 {a1 a2 a3 : Value} {y' : MethodName} {bytes' : ByteArray} {maxL : Nat} {ret' : Option FieldType} {rm : Room} {idx : Nat} {P : List GCell → Prop} {ps : List FieldType} {rt : Option FieldType} (hd : Dc bytes pc (.invokestatic idx) 3 nx) (w1 : Jvm.Cond.methodLink y.cls idx y' ∈ W) (w2 : Jvm.Cond.static y' ∈ W) (w5 : Jvm.Cond.code y' bytes' maxL ret' ∈ W) (w6 : Jvm.Cond.initialized y'.cls ∈ W) (hy : y'.cls ≠ "java/lang/invoke/MethodHandle" ∧ y'.cls ≠ "java/lang/invoke/VarHandle") (hdesc : parseMethodDescriptor y'.desc = some ⟨ps, rt⟩) (hlen : ps.length = 3)
    (M : Met l Z a0 b y' bytes' maxL ret' rm [a1, a2, a3] H (fun v H' => v = none ∧ P H')) (hL : L.length = nL) (wdt : Nat) (hwd : (S.map Value.category).sum = wdt) (hfr : rm.frames + 1 ≤ R.frames) (hlo : wdt + (maxL + 11) + rm.locals ≤ R.locals) (hc : cells + rm.cells ≤ R.cells) (hs : slots + rm.slots ≤ R.slots)
    (h : ∀ H', P H' → Go C nx L S H' (cells + rm.cells) (slots + rm.slots)) : Go C pc L (a3 :: a2 :: a1 :: S) H cells slots :=
  go_static hd w1 w2 w5 w6 hy hdesc (as := [a1, a2, a3]) (by rw [hlen]; rfl) M rfl hL wdt (Nat.le_of_eq hwd) hfr hlo hc hs (fun v H' q => by obtain ⟨rfl, q⟩ := q; exact h H' q)
theorem go_static_4 {a1 a2 a3 a4 : Value} {y' : MethodName} {bytes' : ByteArray} {maxL : Nat} {ret' : Option FieldType} {rm : Room} {idx : Nat} {P : Value → List GCell → Prop} {ps : List FieldType} {rt : Option FieldType} (hd : Dc bytes pc (.invokestatic idx) 3 nx) (w1 : Jvm.Cond.methodLink y.cls idx y' ∈ W) (w2 : Jvm.Cond.static y' ∈ W) (w5 : Jvm.Cond.code y' bytes' maxL ret' ∈ W) (w6 : Jvm.Cond.initialized y'.cls ∈ W) (hy : y'.cls ≠ "java/lang/invoke/MethodHandle" ∧ y'.cls ≠ "java/lang/invoke/VarHandle") (hdesc : parseMethodDescriptor y'.desc = some ⟨ps, rt⟩) (hlen : ps.length = 4)
    (M : Met l Z a0 b y' bytes' maxL ret' rm [a1, a2, a3, a4] H (fun v H' => ∃ w, v = some w ∧ P w H')) (hL : L.length = nL) (wdt : Nat) (hwd : (S.map Value.category).sum = wdt) (hfr : rm.frames + 1 ≤ R.frames) (hlo : wdt + (maxL + 11) + rm.locals ≤ R.locals) (hc : cells + rm.cells ≤ R.cells) (hs : slots + rm.slots ≤ R.slots)
    (h : ∀ w H', P w H' → Go C nx L (w :: S) H' (cells + rm.cells) (slots + rm.slots)) : Go C pc L (a4 :: a3 :: a2 :: a1 :: S) H cells slots :=
  go_static hd w1 w2 w5 w6 hy hdesc (as := [a1, a2, a3, a4]) (by rw [hlen]; rfl) M rfl hL wdt (Nat.le_of_eq hwd) hfr hlo hc hs (fun v H' q => by obtain ⟨w, rfl, q⟩ := q; exact h w H' q)
theorem go_staticV_5 {a1 a2 a3 a4 a5 : Value} {y' : MethodName} {bytes' : ByteArray} {maxL : Nat} {ret' : Option FieldType} {rm : Room} {idx : Nat} {P : List GCell → Prop} {ps : List FieldType} {rt : Option FieldType} (hd : Dc bytes pc (.invokestatic idx) 3 nx) (w1 : Jvm.Cond.methodLink y.cls idx y' ∈ W) (w2 : Jvm.Cond.static y' ∈ W) (w5 : Jvm.Cond.code y' bytes' maxL ret' ∈ W) (w6 : Jvm.Cond.initialized y'.cls ∈ W) (hy : y'.cls ≠ "java/lang/invoke/MethodHandle" ∧ y'.cls ≠ "java/lang/invoke/VarHandle") (hdesc : parseMethodDescriptor y'.desc = some ⟨ps, rt⟩) (hlen : ps.length = 5)
    (M : Met l Z a0 b y' bytes' maxL ret' rm [a1, a2, a3, a4, a5] H (fun v H' => v = none ∧ P H')) (hL : L.length = nL) (wdt : Nat) (hwd : (S.map Value.category).sum = wdt) (hfr : rm.frames + 1 ≤ R.frames) (hlo : wdt + (maxL + 11) + rm.locals ≤ R.locals) (hc : cells + rm.cells ≤ R.cells) (hs : slots + rm.slots ≤ R.slots)
    (h : ∀ H', P H' → Go C nx L S H' (cells + rm.cells) (slots + rm.slots)) : Go C pc L (a5 :: a4 :: a3 :: a2 :: a1 :: S) H cells slots :=
  go_static hd w1 w2 w5 w6 hy hdesc (as := [a1, a2, a3, a4, a5]) (by rw [hlen]; rfl) M rfl hL wdt (Nat.le_of_eq hwd) hfr hlo hc hs (fun v H' q => by obtain ⟨rfl, q⟩ := q; exact h H' q)
theorem go_staticV_6 {a1 a2 a3 a4 a5 a6 : Value} {y' : MethodName} {bytes' : ByteArray} {maxL : Nat} {ret' : Option FieldType} {rm : Room} {idx : Nat} {P : List GCell → Prop} {ps : List FieldType} {rt : Option FieldType} (hd : Dc bytes pc (.invokestatic idx) 3 nx) (w1 : Jvm.Cond.methodLink y.cls idx y' ∈ W) (w2 : Jvm.Cond.static y' ∈ W) (w5 : Jvm.Cond.code y' bytes' maxL ret' ∈ W) (w6 : Jvm.Cond.initialized y'.cls ∈ W) (hy : y'.cls ≠ "java/lang/invoke/MethodHandle" ∧ y'.cls ≠ "java/lang/invoke/VarHandle") (hdesc : parseMethodDescriptor y'.desc = some ⟨ps, rt⟩) (hlen : ps.length = 6)
    (M : Met l Z a0 b y' bytes' maxL ret' rm [a1, a2, a3, a4, a5, a6] H (fun v H' => v = none ∧ P H')) (hL : L.length = nL) (wdt : Nat) (hwd : (S.map Value.category).sum = wdt) (hfr : rm.frames + 1 ≤ R.frames) (hlo : wdt + (maxL + 11) + rm.locals ≤ R.locals) (hc : cells + rm.cells ≤ R.cells) (hs : slots + rm.slots ≤ R.slots)
    (h : ∀ H', P H' → Go C nx L S H' (cells + rm.cells) (slots + rm.slots)) : Go C pc L (a6 :: a5 :: a4 :: a3 :: a2 :: a1 :: S) H cells slots :=
  go_static hd w1 w2 w5 w6 hy hdesc (as := [a1, a2, a3, a4, a5, a6]) (by rw [hlen]; rfl) M rfl hL wdt (Nat.le_of_eq hwd) hfr hlo hc hs (fun v H' q => by obtain ⟨rfl, q⟩ := q; exact h H' q)
theorem go_static_6 {a1 a2 a3 a4 a5 a6 : Value} {y' : MethodName} {bytes' : ByteArray} {maxL : Nat} {ret' : Option FieldType} {rm : Room} {idx : Nat} {P : Value → List GCell → Prop} {ps : List FieldType} {rt : Option FieldType} (hd : Dc bytes pc (.invokestatic idx) 3 nx) (w1 : Jvm.Cond.methodLink y.cls idx y' ∈ W) (w2 : Jvm.Cond.static y' ∈ W) (w5 : Jvm.Cond.code y' bytes' maxL ret' ∈ W) (w6 : Jvm.Cond.initialized y'.cls ∈ W) (hy : y'.cls ≠ "java/lang/invoke/MethodHandle" ∧ y'.cls ≠ "java/lang/invoke/VarHandle") (hdesc : parseMethodDescriptor y'.desc = some ⟨ps, rt⟩) (hlen : ps.length = 6)
    (M : Met l Z a0 b y' bytes' maxL ret' rm [a1, a2, a3, a4, a5, a6] H (fun v H' => ∃ w, v = some w ∧ P w H')) (hL : L.length = nL) (wdt : Nat) (hwd : (S.map Value.category).sum = wdt) (hfr : rm.frames + 1 ≤ R.frames) (hlo : wdt + (maxL + 11) + rm.locals ≤ R.locals) (hc : cells + rm.cells ≤ R.cells) (hs : slots + rm.slots ≤ R.slots)
    (h : ∀ w H', P w H' → Go C nx L (w :: S) H' (cells + rm.cells) (slots + rm.slots)) : Go C pc L (a6 :: a5 :: a4 :: a3 :: a2 :: a1 :: S) H cells slots :=
  go_static hd w1 w2 w5 w6 hy hdesc (as := [a1, a2, a3, a4, a5, a6]) (by rw [hlen]; rfl) M rfl hL wdt (Nat.le_of_eq hwd) hfr hlo hc hs (fun v H' q => by obtain ⟨w, rfl, q⟩ := q; exact h w H' q)
end Places
end Jvm.GoKit

namespace Jvm.Pilot.@@N@@
open Jvm Jvm.ClassFile Sem Op Lib Jvm.Free Jvm.Stand Jvm.LawKit Jvm.RoadKit Bundle Jvm.GoKit Jvm.Pilot.@@N@@.Jvm.D
theorem e0_0 : Dc code 0 (.iconst 1) 1 1 := ⟨at_0, rfl⟩
theorem e0_1 : Dc code 1 (.iload_n 0) 1 2 := ⟨at_1, rfl⟩
theorem e0_2 : Dc code 2 (.ldc 7) 2 4 := ⟨at_2, rfl⟩
theorem e0_4 : Dc code 4 (.iand) 1 5 := ⟨at_4, rfl⟩
theorem e0_5 : Dc code 5 (.iconst 5) 1 6 := ⟨at_5, rfl⟩
theorem e0_6 : Dc code 6 (.irem) 1 7 := ⟨at_6, rfl⟩
theorem e0_7 : Dc code 7 (.iadd) 1 8 := ⟨at_7, rfl⟩
theorem e0_8 : Dc code 8 (.istore 4) 2 10 := ⟨at_8, rfl⟩
theorem e0_10 : Dc code 10 (.iload 4) 2 12 := ⟨at_10, rfl⟩
theorem e0_12 : Dc code 12 (.iconst 1) 1 13 := ⟨at_12, rfl⟩
theorem e0_13 : Dc code 13 (.isub) 1 14 := ⟨at_13, rfl⟩
theorem e0_14 : Dc code 14 (.istore 5) 2 16 := ⟨at_14, rfl⟩
theorem e0_16 : Dc code 16 (.iload_n 1) 1 17 := ⟨at_16, rfl⟩
theorem e0_17 : Dc code 17 (.ldc 7) 2 19 := ⟨at_17, rfl⟩
theorem e0_19 : Dc code 19 (.iand) 1 20 := ⟨at_19, rfl⟩
theorem e0_20 : Dc code 20 (.bipush 24) 2 22 := ⟨at_20, rfl⟩
theorem e0_22 : Dc code 22 (.irem) 1 23 := ⟨at_22, rfl⟩
theorem e0_23 : Dc code 23 (.istore 6) 2 25 := ⟨at_23, rfl⟩
theorem e0_25 : Dc code 25 (.iconst 4) 1 26 := ⟨at_25, rfl⟩
theorem e0_26 : Dc code 26 (.newarray .int) 2 28 := ⟨at_26, rfl⟩
theorem e0_28 : Dc code 28 (.dup) 1 29 := ⟨at_28, rfl⟩
theorem e0_29 : Dc code 29 (.iconst 0) 1 30 := ⟨at_29, rfl⟩
theorem e0_30 : Dc code 30 (.iconst 1) 1 31 := ⟨at_30, rfl⟩
theorem e0_31 : Dc code 31 (.iastore) 1 32 := ⟨at_31, rfl⟩
theorem e0_32 : Dc code 32 (.dup) 1 33 := ⟨at_32, rfl⟩
theorem e0_33 : Dc code 33 (.iconst 1) 1 34 := ⟨at_33, rfl⟩
theorem e0_34 : Dc code 34 (.iconst 2) 1 35 := ⟨at_34, rfl⟩
theorem e0_35 : Dc code 35 (.iastore) 1 36 := ⟨at_35, rfl⟩
theorem e0_36 : Dc code 36 (.dup) 1 37 := ⟨at_36, rfl⟩
theorem e0_37 : Dc code 37 (.iconst 2) 1 38 := ⟨at_37, rfl⟩
theorem e0_38 : Dc code 38 (.iconst 3) 1 39 := ⟨at_38, rfl⟩
theorem e0_39 : Dc code 39 (.iastore) 1 40 := ⟨at_39, rfl⟩
theorem e0_40 : Dc code 40 (.dup) 1 41 := ⟨at_40, rfl⟩
theorem e0_41 : Dc code 41 (.iconst 3) 1 42 := ⟨at_41, rfl⟩
theorem e0_42 : Dc code 42 (.iconst 4) 1 43 := ⟨at_42, rfl⟩
theorem e0_43 : Dc code 43 (.iastore) 1 44 := ⟨at_43, rfl⟩
theorem e0_44 : Dc code 44 (.astore 7) 2 46 := ⟨at_44, rfl⟩
theorem e0_46 : Dc code 46 (.aload 7) 2 48 := ⟨at_46, rfl⟩
theorem e0_48 : Dc code 48 (.iconst 3) 1 49 := ⟨at_48, rfl⟩
theorem e0_49 : Dc code 49 (.iload 6) 2 51 := ⟨at_49, rfl⟩
theorem e0_51 : Dc code 51 (.iconst 4) 1 52 := ⟨at_51, rfl⟩
theorem e0_52 : Dc code 52 (.irem) 1 53 := ⟨at_52, rfl⟩
theorem e0_53 : Dc code 53 (.invokestatic 8) 3 56 := ⟨at_53, rfl⟩
theorem e0_56 : Dc code 56 (.aload 7) 2 58 := ⟨at_56, rfl⟩
theorem e0_58 : Dc code 58 (.iconst 2) 1 59 := ⟨at_58, rfl⟩
theorem e0_59 : Dc code 59 (.iload 6) 2 61 := ⟨at_59, rfl⟩
theorem e0_61 : Dc code 61 (.iconst 4) 1 62 := ⟨at_61, rfl⟩
theorem e0_62 : Dc code 62 (.idiv) 1 63 := ⟨at_62, rfl⟩
theorem e0_63 : Dc code 63 (.iconst 3) 1 64 := ⟨at_63, rfl⟩
theorem e0_64 : Dc code 64 (.irem) 1 65 := ⟨at_64, rfl⟩
theorem e0_65 : Dc code 65 (.invokestatic 8) 3 68 := ⟨at_65, rfl⟩
theorem e0_68 : Dc code 68 (.aload 7) 2 70 := ⟨at_68, rfl⟩
theorem e0_70 : Dc code 70 (.iconst 1) 1 71 := ⟨at_70, rfl⟩
theorem e0_71 : Dc code 71 (.iload 6) 2 73 := ⟨at_71, rfl⟩
theorem e0_73 : Dc code 73 (.bipush 12) 2 75 := ⟨at_73, rfl⟩
theorem e0_75 : Dc code 75 (.idiv) 1 76 := ⟨at_75, rfl⟩
theorem e0_76 : Dc code 76 (.iconst 2) 1 77 := ⟨at_76, rfl⟩
theorem e0_77 : Dc code 77 (.irem) 1 78 := ⟨at_77, rfl⟩
theorem e0_78 : Dc code 78 (.invokestatic 8) 3 81 := ⟨at_78, rfl⟩
theorem e0_81 : Dc code 81 (.iconst 4) 1 82 := ⟨at_81, rfl⟩
theorem e0_82 : Dc code 82 (.newarray .int) 2 84 := ⟨at_82, rfl⟩
theorem e0_84 : Dc code 84 (.astore 8) 2 86 := ⟨at_84, rfl⟩
theorem e0_86 : Dc code 86 (.iconst 0) 1 87 := ⟨at_86, rfl⟩
theorem e0_87 : Dc code 87 (.istore 9) 2 89 := ⟨at_87, rfl⟩
theorem e0_89 : Dc code 89 (.aload 7) 2 91 := ⟨at_89, rfl⟩
theorem e0_91 : Dc code 91 (.iconst 0) 1 92 := ⟨at_91, rfl⟩
theorem e0_92 : Dc code 92 (.iaload) 1 93 := ⟨at_92, rfl⟩
theorem e0_93 : Dc code 93 (.iload 5) 2 95 := ⟨at_93, rfl⟩
theorem e0_95 : Dc code 95 (.if_icmp .gt 15) 3 98 := ⟨at_95, rfl⟩
theorem e0_98 : Dc code 98 (.aload 8) 2 100 := ⟨at_98, rfl⟩
theorem e0_100 : Dc code 100 (.iload 9) 2 102 := ⟨at_100, rfl⟩
theorem e0_102 : Dc code 102 (.aload 7) 2 104 := ⟨at_102, rfl⟩
theorem e0_104 : Dc code 104 (.iconst 0) 1 105 := ⟨at_104, rfl⟩
theorem e0_105 : Dc code 105 (.iaload) 1 106 := ⟨at_105, rfl⟩
theorem e0_106 : Dc code 106 (.iastore) 1 107 := ⟨at_106, rfl⟩
theorem e0_107 : Dc code 107 (.iinc 9 1) 3 110 := ⟨at_107, rfl⟩
theorem e0_110 : Dc code 110 (.aload 7) 2 112 := ⟨at_110, rfl⟩
theorem e0_112 : Dc code 112 (.iconst 1) 1 113 := ⟨at_112, rfl⟩
theorem e0_113 : Dc code 113 (.iaload) 1 114 := ⟨at_113, rfl⟩
theorem e0_114 : Dc code 114 (.iload 5) 2 116 := ⟨at_114, rfl⟩
theorem e0_116 : Dc code 116 (.if_icmp .gt 15) 3 119 := ⟨at_116, rfl⟩
theorem e0_119 : Dc code 119 (.aload 8) 2 121 := ⟨at_119, rfl⟩
theorem e0_121 : Dc code 121 (.iload 9) 2 123 := ⟨at_121, rfl⟩
theorem e0_123 : Dc code 123 (.aload 7) 2 125 := ⟨at_123, rfl⟩
theorem e0_125 : Dc code 125 (.iconst 1) 1 126 := ⟨at_125, rfl⟩
theorem e0_126 : Dc code 126 (.iaload) 1 127 := ⟨at_126, rfl⟩
theorem e0_127 : Dc code 127 (.iastore) 1 128 := ⟨at_127, rfl⟩
theorem e0_128 : Dc code 128 (.iinc 9 1) 3 131 := ⟨at_128, rfl⟩
theorem e0_131 : Dc code 131 (.aload 7) 2 133 := ⟨at_131, rfl⟩
theorem e0_133 : Dc code 133 (.iconst 2) 1 134 := ⟨at_133, rfl⟩
theorem e0_134 : Dc code 134 (.iaload) 1 135 := ⟨at_134, rfl⟩
theorem e0_135 : Dc code 135 (.iload 5) 2 137 := ⟨at_135, rfl⟩
theorem e0_137 : Dc code 137 (.if_icmp .gt 15) 3 140 := ⟨at_137, rfl⟩
theorem e0_140 : Dc code 140 (.aload 8) 2 142 := ⟨at_140, rfl⟩
theorem e0_142 : Dc code 142 (.iload 9) 2 144 := ⟨at_142, rfl⟩
theorem e0_144 : Dc code 144 (.aload 7) 2 146 := ⟨at_144, rfl⟩
theorem e0_146 : Dc code 146 (.iconst 2) 1 147 := ⟨at_146, rfl⟩
theorem e0_147 : Dc code 147 (.iaload) 1 148 := ⟨at_147, rfl⟩
theorem e0_148 : Dc code 148 (.iastore) 1 149 := ⟨at_148, rfl⟩
theorem e0_149 : Dc code 149 (.iinc 9 1) 3 152 := ⟨at_149, rfl⟩
theorem e0_152 : Dc code 152 (.aload 7) 2 154 := ⟨at_152, rfl⟩
theorem e0_154 : Dc code 154 (.iconst 3) 1 155 := ⟨at_154, rfl⟩
theorem e0_155 : Dc code 155 (.iaload) 1 156 := ⟨at_155, rfl⟩
theorem e0_156 : Dc code 156 (.iload 5) 2 158 := ⟨at_156, rfl⟩
theorem e0_158 : Dc code 158 (.if_icmp .gt 15) 3 161 := ⟨at_158, rfl⟩
theorem e0_161 : Dc code 161 (.aload 8) 2 163 := ⟨at_161, rfl⟩
theorem e0_163 : Dc code 163 (.iload 9) 2 165 := ⟨at_163, rfl⟩
theorem e0_165 : Dc code 165 (.aload 7) 2 167 := ⟨at_165, rfl⟩
theorem e0_167 : Dc code 167 (.iconst 3) 1 168 := ⟨at_167, rfl⟩
theorem e0_168 : Dc code 168 (.iaload) 1 169 := ⟨at_168, rfl⟩
theorem e0_169 : Dc code 169 (.iastore) 1 170 := ⟨at_169, rfl⟩
theorem e0_170 : Dc code 170 (.iinc 9 1) 3 173 := ⟨at_170, rfl⟩
theorem e0_173 : Dc code 173 (.iload 5) 2 175 := ⟨at_173, rfl⟩
theorem e0_175 : Dc code 175 (.iconst 2) 1 176 := ⟨at_175, rfl⟩
theorem e0_176 : Dc code 176 (.if_icmp .lt 21) 3 179 := ⟨at_176, rfl⟩
theorem e0_179 : Dc code 179 (.aload 8) 2 181 := ⟨at_179, rfl⟩
theorem e0_181 : Dc code 181 (.iconst 0) 1 182 := ⟨at_181, rfl⟩
theorem e0_182 : Dc code 182 (.iaload) 1 183 := ⟨at_182, rfl⟩
theorem e0_183 : Dc code 183 (.aload 8) 2 185 := ⟨at_183, rfl⟩
theorem e0_185 : Dc code 185 (.iload 5) 2 187 := ⟨at_185, rfl⟩
theorem e0_187 : Dc code 187 (.iconst 1) 1 188 := ⟨at_187, rfl⟩
theorem e0_188 : Dc code 188 (.isub) 1 189 := ⟨at_188, rfl⟩
theorem e0_189 : Dc code 189 (.iaload) 1 190 := ⟨at_189, rfl⟩
theorem e0_190 : Dc code 190 (.if_icmp .le 7) 3 193 := ⟨at_190, rfl⟩
theorem e0_193 : Dc code 193 (.iconst 1) 1 194 := ⟨at_193, rfl⟩
theorem e0_194 : Dc code 194 (.goto 4) 3 197 := ⟨at_194, rfl⟩
theorem e0_197 : Dc code 197 (.iconst 0) 1 198 := ⟨at_197, rfl⟩
theorem e0_198 : Dc code 198 (.istore 10) 2 200 := ⟨at_198, rfl⟩
theorem e0_200 : Dc code 200 (.iload 4) 2 202 := ⟨at_200, rfl⟩
theorem e0_202 : Dc code 202 (.newarray .int) 2 204 := ⟨at_202, rfl⟩
theorem e0_204 : Dc code 204 (.astore 11) 2 206 := ⟨at_204, rfl⟩
theorem e0_206 : Dc code 206 (.aload 11) 2 208 := ⟨at_206, rfl⟩
theorem e0_208 : Dc code 208 (.iconst 0) 1 209 := ⟨at_208, rfl⟩
theorem e0_209 : Dc code 209 (.iconst 0) 1 210 := ⟨at_209, rfl⟩
theorem e0_210 : Dc code 210 (.iastore) 1 211 := ⟨at_210, rfl⟩
theorem e0_211 : Dc code 211 (.aload 11) 2 213 := ⟨at_211, rfl⟩
theorem e0_213 : Dc code 213 (.aload 8) 2 215 := ⟨at_213, rfl⟩
theorem e0_215 : Dc code 215 (.iload 5) 2 217 := ⟨at_215, rfl⟩
theorem e0_217 : Dc code 217 (.iconst 0) 1 218 := ⟨at_217, rfl⟩
theorem e0_218 : Dc code 218 (.iload 10) 2 220 := ⟨at_218, rfl⟩
theorem e0_220 : Dc code 220 (.invokestatic 14) 3 223 := ⟨at_220, rfl⟩
theorem e0_223 : Dc code 223 (.aload 11) 2 225 := ⟨at_223, rfl⟩
theorem e0_225 : Dc code 225 (.aload 8) 2 227 := ⟨at_225, rfl⟩
theorem e0_227 : Dc code 227 (.iload 5) 2 229 := ⟨at_227, rfl⟩
theorem e0_229 : Dc code 229 (.iconst 1) 1 230 := ⟨at_229, rfl⟩
theorem e0_230 : Dc code 230 (.iload 10) 2 232 := ⟨at_230, rfl⟩
theorem e0_232 : Dc code 232 (.invokestatic 14) 3 235 := ⟨at_232, rfl⟩
theorem e0_235 : Dc code 235 (.aload 11) 2 237 := ⟨at_235, rfl⟩
theorem e0_237 : Dc code 237 (.aload 8) 2 239 := ⟨at_237, rfl⟩
theorem e0_239 : Dc code 239 (.iload 5) 2 241 := ⟨at_239, rfl⟩
theorem e0_241 : Dc code 241 (.iconst 2) 1 242 := ⟨at_241, rfl⟩
theorem e0_242 : Dc code 242 (.iload 10) 2 244 := ⟨at_242, rfl⟩
theorem e0_244 : Dc code 244 (.invokestatic 14) 3 247 := ⟨at_244, rfl⟩
theorem e0_247 : Dc code 247 (.aload 11) 2 249 := ⟨at_247, rfl⟩
theorem e0_249 : Dc code 249 (.aload 8) 2 251 := ⟨at_249, rfl⟩
theorem e0_251 : Dc code 251 (.iload 5) 2 253 := ⟨at_251, rfl⟩
theorem e0_253 : Dc code 253 (.iconst 3) 1 254 := ⟨at_253, rfl⟩
theorem e0_254 : Dc code 254 (.iload 10) 2 256 := ⟨at_254, rfl⟩
theorem e0_256 : Dc code 256 (.invokestatic 14) 3 259 := ⟨at_256, rfl⟩
theorem e0_259 : Dc code 259 (.iload_n 2) 1 260 := ⟨at_259, rfl⟩
theorem e0_260 : Dc code 260 (.ldc 7) 2 262 := ⟨at_260, rfl⟩
theorem e0_262 : Dc code 262 (.iand) 1 263 := ⟨at_262, rfl⟩
theorem e0_263 : Dc code 263 (.iload 4) 2 265 := ⟨at_263, rfl⟩
theorem e0_265 : Dc code 265 (.irem) 1 266 := ⟨at_265, rfl⟩
theorem e0_266 : Dc code 266 (.istore 12) 2 268 := ⟨at_266, rfl⟩
theorem e0_268 : Dc code 268 (.iload_n 3) 1 269 := ⟨at_268, rfl⟩
theorem e0_269 : Dc code 269 (.iconst 1) 1 270 := ⟨at_269, rfl⟩
theorem e0_270 : Dc code 270 (.iand) 1 271 := ⟨at_270, rfl⟩
theorem e0_271 : Dc code 271 (.ifCond .eq 7) 3 274 := ⟨at_271, rfl⟩
theorem e0_274 : Dc code 274 (.iconst 1) 1 275 := ⟨at_274, rfl⟩
theorem e0_275 : Dc code 275 (.goto 4) 3 278 := ⟨at_275, rfl⟩
theorem e0_278 : Dc code 278 (.iconst 0) 1 279 := ⟨at_278, rfl⟩
theorem e0_279 : Dc code 279 (.istore 13) 2 281 := ⟨at_279, rfl⟩
theorem e0_281 : Dc code 281 (.iload 4) 2 283 := ⟨at_281, rfl⟩
theorem e0_283 : Dc code 283 (.newarray .int) 2 285 := ⟨at_283, rfl⟩
theorem e0_285 : Dc code 285 (.astore 14) 2 287 := ⟨at_285, rfl⟩
theorem e0_287 : Dc code 287 (.aload 14) 2 289 := ⟨at_287, rfl⟩
theorem e0_289 : Dc code 289 (.aload 11) 2 291 := ⟨at_289, rfl⟩
theorem e0_291 : Dc code 291 (.iload 4) 2 293 := ⟨at_291, rfl⟩
theorem e0_293 : Dc code 293 (.iload 12) 2 295 := ⟨at_293, rfl⟩
theorem e0_295 : Dc code 295 (.iload 13) 2 297 := ⟨at_295, rfl⟩
theorem e0_297 : Dc code 297 (.iconst 0) 1 298 := ⟨at_297, rfl⟩
theorem e0_298 : Dc code 298 (.invokestatic 18) 3 301 := ⟨at_298, rfl⟩
theorem e0_301 : Dc code 301 (.aload 14) 2 303 := ⟨at_301, rfl⟩
theorem e0_303 : Dc code 303 (.aload 11) 2 305 := ⟨at_303, rfl⟩
theorem e0_305 : Dc code 305 (.iload 4) 2 307 := ⟨at_305, rfl⟩
theorem e0_307 : Dc code 307 (.iload 12) 2 309 := ⟨at_307, rfl⟩
theorem e0_309 : Dc code 309 (.iload 13) 2 311 := ⟨at_309, rfl⟩
theorem e0_311 : Dc code 311 (.iconst 1) 1 312 := ⟨at_311, rfl⟩
theorem e0_312 : Dc code 312 (.invokestatic 18) 3 315 := ⟨at_312, rfl⟩
theorem e0_315 : Dc code 315 (.aload 14) 2 317 := ⟨at_315, rfl⟩
theorem e0_317 : Dc code 317 (.aload 11) 2 319 := ⟨at_317, rfl⟩
theorem e0_319 : Dc code 319 (.iload 4) 2 321 := ⟨at_319, rfl⟩
theorem e0_321 : Dc code 321 (.iload 12) 2 323 := ⟨at_321, rfl⟩
theorem e0_323 : Dc code 323 (.iload 13) 2 325 := ⟨at_323, rfl⟩
theorem e0_325 : Dc code 325 (.iconst 2) 1 326 := ⟨at_325, rfl⟩
theorem e0_326 : Dc code 326 (.invokestatic 18) 3 329 := ⟨at_326, rfl⟩
theorem e0_329 : Dc code 329 (.aload 14) 2 331 := ⟨at_329, rfl⟩
theorem e0_331 : Dc code 331 (.aload 11) 2 333 := ⟨at_331, rfl⟩
theorem e0_333 : Dc code 333 (.iload 4) 2 335 := ⟨at_333, rfl⟩
theorem e0_335 : Dc code 335 (.iload 12) 2 337 := ⟨at_335, rfl⟩
theorem e0_337 : Dc code 337 (.iload 13) 2 339 := ⟨at_337, rfl⟩
theorem e0_339 : Dc code 339 (.iconst 3) 1 340 := ⟨at_339, rfl⟩
theorem e0_340 : Dc code 340 (.invokestatic 18) 3 343 := ⟨at_340, rfl⟩
theorem e0_343 : Dc code 343 (.aload 14) 2 345 := ⟨at_343, rfl⟩
theorem e0_345 : Dc code 345 (.aload 11) 2 347 := ⟨at_345, rfl⟩
theorem e0_347 : Dc code 347 (.iload 4) 2 349 := ⟨at_347, rfl⟩
theorem e0_349 : Dc code 349 (.iload 12) 2 351 := ⟨at_349, rfl⟩
theorem e0_351 : Dc code 351 (.iload 13) 2 353 := ⟨at_351, rfl⟩
theorem e0_353 : Dc code 353 (.iconst 4) 1 354 := ⟨at_353, rfl⟩
theorem e0_354 : Dc code 354 (.invokestatic 18) 3 357 := ⟨at_354, rfl⟩
theorem e0_357 : Dc code 357 (.aload 14) 2 359 := ⟨at_357, rfl⟩
theorem e0_359 : Dc code 359 (.invokestatic 22) 3 362 := ⟨at_359, rfl⟩
theorem e0_362 : Dc code 362 (.astore 15) 2 364 := ⟨at_362, rfl⟩
theorem e0_364 : Dc code 364 (.aload 15) 2 366 := ⟨at_364, rfl⟩
theorem e0_366 : Dc code 366 (.aload 14) 2 368 := ⟨at_366, rfl⟩
theorem e0_368 : Dc code 368 (.if_acmp .eq 11) 3 371 := ⟨at_368, rfl⟩
theorem e0_371 : Dc code 371 (.aload 15) 2 373 := ⟨at_371, rfl⟩
theorem e0_373 : Dc code 373 (.arraylength) 1 374 := ⟨at_373, rfl⟩
theorem e0_374 : Dc code 374 (.iload 4) 2 376 := ⟨at_374, rfl⟩
theorem e0_376 : Dc code 376 (.if_icmp .eq 5) 3 379 := ⟨at_376, rfl⟩
theorem e0_381 : Dc code 381 (.aload 15) 2 383 := ⟨at_381, rfl⟩
theorem e0_383 : Dc code 383 (.aload 11) 2 385 := ⟨at_383, rfl⟩
theorem e0_385 : Dc code 385 (.iload 4) 2 387 := ⟨at_385, rfl⟩
theorem e0_387 : Dc code 387 (.iconst 0) 1 388 := ⟨at_387, rfl⟩
theorem e0_388 : Dc code 388 (.iconst 1) 1 389 := ⟨at_388, rfl⟩
theorem e0_389 : Dc code 389 (.iconst 0) 1 390 := ⟨at_389, rfl⟩
theorem e0_390 : Dc code 390 (.invokestatic 28) 3 393 := ⟨at_390, rfl⟩
theorem e0_393 : Dc code 393 (.ifCond .eq 67) 3 396 := ⟨at_393, rfl⟩
theorem e0_396 : Dc code 396 (.aload 15) 2 398 := ⟨at_396, rfl⟩
theorem e0_398 : Dc code 398 (.aload 11) 2 400 := ⟨at_398, rfl⟩
theorem e0_400 : Dc code 400 (.iload 4) 2 402 := ⟨at_400, rfl⟩
theorem e0_402 : Dc code 402 (.iconst 0) 1 403 := ⟨at_402, rfl⟩
theorem e0_403 : Dc code 403 (.iconst 1) 1 404 := ⟨at_403, rfl⟩
theorem e0_404 : Dc code 404 (.iconst 1) 1 405 := ⟨at_404, rfl⟩
theorem e0_405 : Dc code 405 (.invokestatic 28) 3 408 := ⟨at_405, rfl⟩
theorem e0_408 : Dc code 408 (.ifCond .eq 52) 3 411 := ⟨at_408, rfl⟩
theorem e0_411 : Dc code 411 (.aload 15) 2 413 := ⟨at_411, rfl⟩
theorem e0_413 : Dc code 413 (.aload 11) 2 415 := ⟨at_413, rfl⟩
theorem e0_415 : Dc code 415 (.iload 4) 2 417 := ⟨at_415, rfl⟩
theorem e0_417 : Dc code 417 (.iconst 0) 1 418 := ⟨at_417, rfl⟩
theorem e0_418 : Dc code 418 (.iconst 1) 1 419 := ⟨at_418, rfl⟩
theorem e0_419 : Dc code 419 (.iconst 2) 1 420 := ⟨at_419, rfl⟩
theorem e0_420 : Dc code 420 (.invokestatic 28) 3 423 := ⟨at_420, rfl⟩
theorem e0_423 : Dc code 423 (.ifCond .eq 37) 3 426 := ⟨at_423, rfl⟩
theorem e0_426 : Dc code 426 (.aload 15) 2 428 := ⟨at_426, rfl⟩
theorem e0_428 : Dc code 428 (.aload 11) 2 430 := ⟨at_428, rfl⟩
theorem e0_430 : Dc code 430 (.iload 4) 2 432 := ⟨at_430, rfl⟩
theorem e0_432 : Dc code 432 (.iconst 0) 1 433 := ⟨at_432, rfl⟩
theorem e0_433 : Dc code 433 (.iconst 1) 1 434 := ⟨at_433, rfl⟩
theorem e0_434 : Dc code 434 (.iconst 3) 1 435 := ⟨at_434, rfl⟩
theorem e0_435 : Dc code 435 (.invokestatic 28) 3 438 := ⟨at_435, rfl⟩
theorem e0_438 : Dc code 438 (.ifCond .eq 22) 3 441 := ⟨at_438, rfl⟩
theorem e0_441 : Dc code 441 (.aload 15) 2 443 := ⟨at_441, rfl⟩
theorem e0_443 : Dc code 443 (.aload 11) 2 445 := ⟨at_443, rfl⟩
theorem e0_445 : Dc code 445 (.iload 4) 2 447 := ⟨at_445, rfl⟩
theorem e0_447 : Dc code 447 (.iconst 0) 1 448 := ⟨at_447, rfl⟩
theorem e0_448 : Dc code 448 (.iconst 1) 1 449 := ⟨at_448, rfl⟩
theorem e0_449 : Dc code 449 (.iconst 4) 1 450 := ⟨at_449, rfl⟩
theorem e0_450 : Dc code 450 (.invokestatic 28) 3 453 := ⟨at_450, rfl⟩
theorem e0_453 : Dc code 453 (.ifCond .eq 7) 3 456 := ⟨at_453, rfl⟩
theorem e0_456 : Dc code 456 (.iconst 1) 1 457 := ⟨at_456, rfl⟩
theorem e0_457 : Dc code 457 (.goto 4) 3 460 := ⟨at_457, rfl⟩
theorem e0_461 : Dc code 461 (.istore 16) 2 463 := ⟨at_461, rfl⟩
theorem e0_463 : Dc code 463 (.aload 14) 2 465 := ⟨at_463, rfl⟩
theorem e0_465 : Dc code 465 (.aload 11) 2 467 := ⟨at_465, rfl⟩
theorem e0_467 : Dc code 467 (.iload 4) 2 469 := ⟨at_467, rfl⟩
theorem e0_469 : Dc code 469 (.iload 12) 2 471 := ⟨at_469, rfl⟩
theorem e0_471 : Dc code 471 (.iload 13) 2 473 := ⟨at_471, rfl⟩
theorem e0_473 : Dc code 473 (.iconst 0) 1 474 := ⟨at_473, rfl⟩
theorem e0_474 : Dc code 474 (.invokestatic 28) 3 477 := ⟨at_474, rfl⟩
theorem e0_477 : Dc code 477 (.ifCond .eq 75) 3 480 := ⟨at_477, rfl⟩
theorem e0_480 : Dc code 480 (.aload 14) 2 482 := ⟨at_480, rfl⟩
theorem e0_482 : Dc code 482 (.aload 11) 2 484 := ⟨at_482, rfl⟩
theorem e0_484 : Dc code 484 (.iload 4) 2 486 := ⟨at_484, rfl⟩
theorem e0_486 : Dc code 486 (.iload 12) 2 488 := ⟨at_486, rfl⟩
theorem e0_488 : Dc code 488 (.iload 13) 2 490 := ⟨at_488, rfl⟩
theorem e0_490 : Dc code 490 (.iconst 1) 1 491 := ⟨at_490, rfl⟩
theorem e0_491 : Dc code 491 (.invokestatic 28) 3 494 := ⟨at_491, rfl⟩
theorem e0_494 : Dc code 494 (.ifCond .eq 58) 3 497 := ⟨at_494, rfl⟩
theorem e0_497 : Dc code 497 (.aload 14) 2 499 := ⟨at_497, rfl⟩
theorem e0_499 : Dc code 499 (.aload 11) 2 501 := ⟨at_499, rfl⟩
theorem e0_501 : Dc code 501 (.iload 4) 2 503 := ⟨at_501, rfl⟩
theorem e0_503 : Dc code 503 (.iload 12) 2 505 := ⟨at_503, rfl⟩
theorem e0_505 : Dc code 505 (.iload 13) 2 507 := ⟨at_505, rfl⟩
theorem e0_507 : Dc code 507 (.iconst 2) 1 508 := ⟨at_507, rfl⟩
theorem e0_508 : Dc code 508 (.invokestatic 28) 3 511 := ⟨at_508, rfl⟩
theorem e0_511 : Dc code 511 (.ifCond .eq 41) 3 514 := ⟨at_511, rfl⟩
theorem e0_514 : Dc code 514 (.aload 14) 2 516 := ⟨at_514, rfl⟩
theorem e0_516 : Dc code 516 (.aload 11) 2 518 := ⟨at_516, rfl⟩
theorem e0_518 : Dc code 518 (.iload 4) 2 520 := ⟨at_518, rfl⟩
theorem e0_520 : Dc code 520 (.iload 12) 2 522 := ⟨at_520, rfl⟩
theorem e0_522 : Dc code 522 (.iload 13) 2 524 := ⟨at_522, rfl⟩
theorem e0_524 : Dc code 524 (.iconst 3) 1 525 := ⟨at_524, rfl⟩
theorem e0_525 : Dc code 525 (.invokestatic 28) 3 528 := ⟨at_525, rfl⟩
theorem e0_528 : Dc code 528 (.ifCond .eq 24) 3 531 := ⟨at_528, rfl⟩
theorem e0_531 : Dc code 531 (.aload 14) 2 533 := ⟨at_531, rfl⟩
theorem e0_533 : Dc code 533 (.aload 11) 2 535 := ⟨at_533, rfl⟩
theorem e0_535 : Dc code 535 (.iload 4) 2 537 := ⟨at_535, rfl⟩
theorem e0_537 : Dc code 537 (.iload 12) 2 539 := ⟨at_537, rfl⟩
theorem e0_539 : Dc code 539 (.iload 13) 2 541 := ⟨at_539, rfl⟩
theorem e0_541 : Dc code 541 (.iconst 4) 1 542 := ⟨at_541, rfl⟩
theorem e0_542 : Dc code 542 (.invokestatic 28) 3 545 := ⟨at_542, rfl⟩
theorem e0_545 : Dc code 545 (.ifCond .eq 7) 3 548 := ⟨at_545, rfl⟩
theorem e0_548 : Dc code 548 (.iconst 1) 1 549 := ⟨at_548, rfl⟩
theorem e0_549 : Dc code 549 (.goto 4) 3 552 := ⟨at_549, rfl⟩
theorem e0_553 : Dc code 553 (.istore 17) 2 555 := ⟨at_553, rfl⟩
theorem e0_555 : Dc code 555 (.iload 16) 2 557 := ⟨at_555, rfl⟩
theorem e0_557 : Dc code 557 (.ifCond .eq 12) 3 560 := ⟨at_557, rfl⟩
theorem e0_560 : Dc code 560 (.iload 17) 2 562 := ⟨at_560, rfl⟩
theorem e0_562 : Dc code 562 (.ifCond .eq 7) 3 565 := ⟨at_562, rfl⟩
theorem e0_565 : Dc code 565 (.iconst 1) 1 566 := ⟨at_565, rfl⟩
theorem e0_566 : Dc code 566 (.goto 4) 3 569 := ⟨at_566, rfl⟩
theorem e0_570 : Dc code 570 (.ireturn) 1 571 := ⟨at_570, rfl⟩
theorem e1_0 : Dc method_3_code 0 (.aload_n 0) 1 1 := ⟨by decide +kernel, rfl⟩
theorem e1_1 : Dc method_3_code 1 (.iload_n 1) 1 2 := ⟨by decide +kernel, rfl⟩
theorem e1_2 : Dc method_3_code 2 (.iaload) 1 3 := ⟨by decide +kernel, rfl⟩
theorem e1_3 : Dc method_3_code 3 (.istore_n 3) 1 4 := ⟨by decide +kernel, rfl⟩
theorem e1_4 : Dc method_3_code 4 (.aload_n 0) 1 5 := ⟨by decide +kernel, rfl⟩
theorem e1_5 : Dc method_3_code 5 (.iload_n 1) 1 6 := ⟨by decide +kernel, rfl⟩
theorem e1_6 : Dc method_3_code 6 (.aload_n 0) 1 7 := ⟨by decide +kernel, rfl⟩
theorem e1_7 : Dc method_3_code 7 (.iload_n 2) 1 8 := ⟨by decide +kernel, rfl⟩
theorem e1_8 : Dc method_3_code 8 (.iaload) 1 9 := ⟨by decide +kernel, rfl⟩
theorem e1_9 : Dc method_3_code 9 (.iastore) 1 10 := ⟨by decide +kernel, rfl⟩
theorem e1_10 : Dc method_3_code 10 (.aload_n 0) 1 11 := ⟨by decide +kernel, rfl⟩
theorem e1_11 : Dc method_3_code 11 (.iload_n 2) 1 12 := ⟨by decide +kernel, rfl⟩
theorem e1_12 : Dc method_3_code 12 (.iload_n 3) 1 13 := ⟨by decide +kernel, rfl⟩
theorem e1_13 : Dc method_3_code 13 (.iastore) 1 14 := ⟨by decide +kernel, rfl⟩
theorem e1_14 : Dc method_3_code 14 (.return_) 1 15 := ⟨by decide +kernel, rfl⟩
theorem e2_0 : Dc method_4_code 0 (.iload_n 3) 1 1 := ⟨by decide +kernel, rfl⟩
theorem e2_1 : Dc method_4_code 1 (.iload_n 2) 1 2 := ⟨by decide +kernel, rfl⟩
theorem e2_2 : Dc method_4_code 2 (.if_icmp .ge 26) 3 5 := ⟨by decide +kernel, rfl⟩
theorem e2_5 : Dc method_4_code 5 (.aload_n 0) 1 6 := ⟨by decide +kernel, rfl⟩
theorem e2_6 : Dc method_4_code 6 (.iconst 1) 1 7 := ⟨by decide +kernel, rfl⟩
theorem e2_7 : Dc method_4_code 7 (.iload_n 3) 1 8 := ⟨by decide +kernel, rfl⟩
theorem e2_8 : Dc method_4_code 8 (.iadd) 1 9 := ⟨by decide +kernel, rfl⟩
theorem e2_9 : Dc method_4_code 9 (.iload 4) 2 11 := ⟨by decide +kernel, rfl⟩
theorem e2_11 : Dc method_4_code 11 (.ifCond .eq 13) 3 14 := ⟨by decide +kernel, rfl⟩
theorem e2_14 : Dc method_4_code 14 (.aload_n 1) 1 15 := ⟨by decide +kernel, rfl⟩
theorem e2_15 : Dc method_4_code 15 (.iload_n 2) 1 16 := ⟨by decide +kernel, rfl⟩
theorem e2_16 : Dc method_4_code 16 (.iconst 1) 1 17 := ⟨by decide +kernel, rfl⟩
theorem e2_17 : Dc method_4_code 17 (.isub) 1 18 := ⟨by decide +kernel, rfl⟩
theorem e2_18 : Dc method_4_code 18 (.iload_n 3) 1 19 := ⟨by decide +kernel, rfl⟩
theorem e2_19 : Dc method_4_code 19 (.isub) 1 20 := ⟨by decide +kernel, rfl⟩
theorem e2_20 : Dc method_4_code 20 (.iaload) 1 21 := ⟨by decide +kernel, rfl⟩
theorem e2_21 : Dc method_4_code 21 (.goto 6) 3 24 := ⟨by decide +kernel, rfl⟩
theorem e2_24 : Dc method_4_code 24 (.aload_n 1) 1 25 := ⟨by decide +kernel, rfl⟩
theorem e2_25 : Dc method_4_code 25 (.iload_n 3) 1 26 := ⟨by decide +kernel, rfl⟩
theorem e2_26 : Dc method_4_code 26 (.iaload) 1 27 := ⟨by decide +kernel, rfl⟩
theorem e2_27 : Dc method_4_code 27 (.iastore) 1 28 := ⟨by decide +kernel, rfl⟩
theorem e2_28 : Dc method_4_code 28 (.return_) 1 29 := ⟨by decide +kernel, rfl⟩
theorem e3_0 : Dc method_6_code 0 (.iload 5) 2 2 := ⟨by decide +kernel, rfl⟩
theorem e3_2 : Dc method_6_code 2 (.iload_n 2) 1 3 := ⟨by decide +kernel, rfl⟩
theorem e3_3 : Dc method_6_code 3 (.if_icmp .ge 18) 3 6 := ⟨by decide +kernel, rfl⟩
theorem e3_6 : Dc method_6_code 6 (.aload_n 0) 1 7 := ⟨by decide +kernel, rfl⟩
theorem e3_7 : Dc method_6_code 7 (.iload_n 2) 1 8 := ⟨by decide +kernel, rfl⟩
theorem e3_8 : Dc method_6_code 8 (.iload_n 3) 1 9 := ⟨by decide +kernel, rfl⟩
theorem e3_9 : Dc method_6_code 9 (.iload 4) 2 11 := ⟨by decide +kernel, rfl⟩
theorem e3_11 : Dc method_6_code 11 (.iload 5) 2 13 := ⟨by decide +kernel, rfl⟩
theorem e3_13 : Dc method_6_code 13 (.invokestatic 32) 3 16 := ⟨by decide +kernel, rfl⟩
theorem e3_16 : Dc method_6_code 16 (.aload_n 1) 1 17 := ⟨by decide +kernel, rfl⟩
theorem e3_17 : Dc method_6_code 17 (.iload 5) 2 19 := ⟨by decide +kernel, rfl⟩
theorem e3_19 : Dc method_6_code 19 (.iaload) 1 20 := ⟨by decide +kernel, rfl⟩
theorem e3_20 : Dc method_6_code 20 (.iastore) 1 21 := ⟨by decide +kernel, rfl⟩
theorem e3_21 : Dc method_6_code 21 (.return_) 1 22 := ⟨by decide +kernel, rfl⟩
theorem e4_0 : Dc method_5_code 0 (.iload_n 2) 1 1 := ⟨by decide +kernel, rfl⟩
theorem e4_1 : Dc method_5_code 1 (.ifCond .eq 11) 3 4 := ⟨by decide +kernel, rfl⟩
theorem e4_4 : Dc method_5_code 4 (.iload_n 1) 1 5 := ⟨by decide +kernel, rfl⟩
theorem e4_5 : Dc method_5_code 5 (.iload_n 3) 1 6 := ⟨by decide +kernel, rfl⟩
theorem e4_6 : Dc method_5_code 6 (.iadd) 1 7 := ⟨by decide +kernel, rfl⟩
theorem e4_7 : Dc method_5_code 7 (.iload_n 0) 1 8 := ⟨by decide +kernel, rfl⟩
theorem e4_8 : Dc method_5_code 8 (.irem) 1 9 := ⟨by decide +kernel, rfl⟩
theorem e4_9 : Dc method_5_code 9 (.goto 10) 3 12 := ⟨by decide +kernel, rfl⟩
theorem e4_12 : Dc method_5_code 12 (.iload_n 1) 1 13 := ⟨by decide +kernel, rfl⟩
theorem e4_13 : Dc method_5_code 13 (.iload_n 3) 1 14 := ⟨by decide +kernel, rfl⟩
theorem e4_14 : Dc method_5_code 14 (.isub) 1 15 := ⟨by decide +kernel, rfl⟩
theorem e4_15 : Dc method_5_code 15 (.iload_n 0) 1 16 := ⟨by decide +kernel, rfl⟩
theorem e4_16 : Dc method_5_code 16 (.iadd) 1 17 := ⟨by decide +kernel, rfl⟩
theorem e4_17 : Dc method_5_code 17 (.iload_n 0) 1 18 := ⟨by decide +kernel, rfl⟩
theorem e4_18 : Dc method_5_code 18 (.irem) 1 19 := ⟨by decide +kernel, rfl⟩
theorem e4_19 : Dc method_5_code 19 (.ireturn) 1 20 := ⟨by decide +kernel, rfl⟩
theorem e5_0 : Dc prog_60_method_7_code 0 (.aload_n 0) 1 1 := ⟨by decide +kernel, rfl⟩
theorem e5_1 : Dc prog_60_method_7_code 1 (.arraylength) 1 2 := ⟨by decide +kernel, rfl⟩
theorem e5_2 : Dc prog_60_method_7_code 2 (.istore_n 1) 1 3 := ⟨by decide +kernel, rfl⟩
theorem e5_3 : Dc prog_60_method_7_code 3 (.iconst 0) 1 4 := ⟨by decide +kernel, rfl⟩
theorem e5_4 : Dc prog_60_method_7_code 4 (.istore_n 2) 1 5 := ⟨by decide +kernel, rfl⟩
theorem e5_5 : Dc prog_60_method_7_code 5 (.aload_n 0) 1 6 := ⟨by decide +kernel, rfl⟩
theorem e5_6 : Dc prog_60_method_7_code 6 (.iload_n 2) 1 7 := ⟨by decide +kernel, rfl⟩
theorem e5_7 : Dc prog_60_method_7_code 7 (.iaload) 1 8 := ⟨by decide +kernel, rfl⟩
theorem e5_8 : Dc prog_60_method_7_code 8 (.ifCond .eq 9) 3 11 := ⟨by decide +kernel, rfl⟩
theorem e5_11 : Dc prog_60_method_7_code 11 (.iinc 2 1) 3 14 := ⟨by decide +kernel, rfl⟩
theorem e5_14 : Dc prog_60_method_7_code 14 (.goto (-9)) 3 17 := ⟨by decide +kernel, rfl⟩
theorem e5_17 : Dc prog_60_method_7_code 17 (.aload_n 0) 1 18 := ⟨by decide +kernel, rfl⟩
theorem e5_18 : Dc prog_60_method_7_code 18 (.iload_n 2) 1 19 := ⟨by decide +kernel, rfl⟩
theorem e5_19 : Dc prog_60_method_7_code 19 (.iconst 1) 1 20 := ⟨by decide +kernel, rfl⟩
theorem e5_20 : Dc prog_60_method_7_code 20 (.iadd) 1 21 := ⟨by decide +kernel, rfl⟩
theorem e5_21 : Dc prog_60_method_7_code 21 (.iload_n 1) 1 22 := ⟨by decide +kernel, rfl⟩
theorem e5_22 : Dc prog_60_method_7_code 22 (.irem) 1 23 := ⟨by decide +kernel, rfl⟩
theorem e5_23 : Dc prog_60_method_7_code 23 (.iaload) 1 24 := ⟨by decide +kernel, rfl⟩
theorem e5_24 : Dc prog_60_method_7_code 24 (.aload_n 0) 1 25 := ⟨by decide +kernel, rfl⟩
theorem e5_25 : Dc prog_60_method_7_code 25 (.iload_n 2) 1 26 := ⟨by decide +kernel, rfl⟩
theorem e5_26 : Dc prog_60_method_7_code 26 (.iload_n 1) 1 27 := ⟨by decide +kernel, rfl⟩
theorem e5_27 : Dc prog_60_method_7_code 27 (.iadd) 1 28 := ⟨by decide +kernel, rfl⟩
theorem e5_28 : Dc prog_60_method_7_code 28 (.iconst 1) 1 29 := ⟨by decide +kernel, rfl⟩
theorem e5_29 : Dc prog_60_method_7_code 29 (.isub) 1 30 := ⟨by decide +kernel, rfl⟩
theorem e5_30 : Dc prog_60_method_7_code 30 (.iload_n 1) 1 31 := ⟨by decide +kernel, rfl⟩
theorem e5_31 : Dc prog_60_method_7_code 31 (.irem) 1 32 := ⟨by decide +kernel, rfl⟩
theorem e5_32 : Dc prog_60_method_7_code 32 (.iaload) 1 33 := ⟨by decide +kernel, rfl⟩
theorem e5_33 : Dc prog_60_method_7_code 33 (.if_icmp .gt 7) 3 36 := ⟨by decide +kernel, rfl⟩
theorem e5_36 : Dc prog_60_method_7_code 36 (.iconst 1) 1 37 := ⟨by decide +kernel, rfl⟩
theorem e5_37 : Dc prog_60_method_7_code 37 (.goto 6) 3 40 := ⟨by decide +kernel, rfl⟩
theorem e5_40 : Dc prog_60_method_7_code 40 (.iload_n 1) 1 41 := ⟨by decide +kernel, rfl⟩
theorem e5_41 : Dc prog_60_method_7_code 41 (.iconst 1) 1 42 := ⟨by decide +kernel, rfl⟩
theorem e5_42 : Dc prog_60_method_7_code 42 (.isub) 1 43 := ⟨by decide +kernel, rfl⟩
theorem e5_43 : Dc prog_60_method_7_code 43 (.istore_n 3) 1 44 := ⟨by decide +kernel, rfl⟩
theorem e5_44 : Dc prog_60_method_7_code 44 (.iload_n 1) 1 45 := ⟨by decide +kernel, rfl⟩
theorem e5_45 : Dc prog_60_method_7_code 45 (.newarray .int) 2 47 := ⟨by decide +kernel, rfl⟩
theorem e5_47 : Dc prog_60_method_7_code 47 (.astore 4) 2 49 := ⟨by decide +kernel, rfl⟩
theorem e5_49 : Dc prog_60_method_7_code 49 (.iconst 0) 1 50 := ⟨by decide +kernel, rfl⟩
theorem e5_50 : Dc prog_60_method_7_code 50 (.istore 5) 2 52 := ⟨by decide +kernel, rfl⟩
theorem e5_52 : Dc prog_60_method_7_code 52 (.iload_n 2) 1 53 := ⟨by decide +kernel, rfl⟩
theorem e5_53 : Dc prog_60_method_7_code 53 (.istore 6) 2 55 := ⟨by decide +kernel, rfl⟩
theorem e5_55 : Dc prog_60_method_7_code 55 (.iload 5) 2 57 := ⟨by decide +kernel, rfl⟩
theorem e5_57 : Dc prog_60_method_7_code 57 (.iload_n 1) 1 58 := ⟨by decide +kernel, rfl⟩
theorem e5_58 : Dc prog_60_method_7_code 58 (.if_icmp .ge 26) 3 61 := ⟨by decide +kernel, rfl⟩
theorem e5_61 : Dc prog_60_method_7_code 61 (.aload 4) 2 63 := ⟨by decide +kernel, rfl⟩
theorem e5_63 : Dc prog_60_method_7_code 63 (.iload 5) 2 65 := ⟨by decide +kernel, rfl⟩
theorem e5_65 : Dc prog_60_method_7_code 65 (.aload_n 0) 1 66 := ⟨by decide +kernel, rfl⟩
theorem e5_66 : Dc prog_60_method_7_code 66 (.iload 6) 2 68 := ⟨by decide +kernel, rfl⟩
theorem e5_68 : Dc prog_60_method_7_code 68 (.iaload) 1 69 := ⟨by decide +kernel, rfl⟩
theorem e5_69 : Dc prog_60_method_7_code 69 (.iastore) 1 70 := ⟨by decide +kernel, rfl⟩
theorem e5_70 : Dc prog_60_method_7_code 70 (.iinc 5 1) 3 73 := ⟨by decide +kernel, rfl⟩
theorem e5_73 : Dc prog_60_method_7_code 73 (.iload 6) 2 75 := ⟨by decide +kernel, rfl⟩
theorem e5_75 : Dc prog_60_method_7_code 75 (.iload_n 3) 1 76 := ⟨by decide +kernel, rfl⟩
theorem e5_76 : Dc prog_60_method_7_code 76 (.iadd) 1 77 := ⟨by decide +kernel, rfl⟩
theorem e5_77 : Dc prog_60_method_7_code 77 (.iload_n 1) 1 78 := ⟨by decide +kernel, rfl⟩
theorem e5_78 : Dc prog_60_method_7_code 78 (.irem) 1 79 := ⟨by decide +kernel, rfl⟩
theorem e5_79 : Dc prog_60_method_7_code 79 (.istore 6) 2 81 := ⟨by decide +kernel, rfl⟩
theorem e5_81 : Dc prog_60_method_7_code 81 (.goto (-26)) 3 84 := ⟨by decide +kernel, rfl⟩
theorem e5_84 : Dc prog_60_method_7_code 84 (.aload 4) 2 86 := ⟨by decide +kernel, rfl⟩
theorem e5_86 : Dc prog_60_method_7_code 86 (.areturn) 1 87 := ⟨by decide +kernel, rfl⟩
theorem e6_0 : Dc method_7_code 0 (.iload 5) 2 2 := ⟨by decide +kernel, rfl⟩
theorem e6_2 : Dc method_7_code 2 (.iload_n 2) 1 3 := ⟨by decide +kernel, rfl⟩
theorem e6_3 : Dc method_7_code 3 (.if_icmp .ge 21) 3 6 := ⟨by decide +kernel, rfl⟩
theorem e6_6 : Dc method_7_code 6 (.aload_n 0) 1 7 := ⟨by decide +kernel, rfl⟩
theorem e6_7 : Dc method_7_code 7 (.iload_n 2) 1 8 := ⟨by decide +kernel, rfl⟩
theorem e6_8 : Dc method_7_code 8 (.iload_n 3) 1 9 := ⟨by decide +kernel, rfl⟩
theorem e6_9 : Dc method_7_code 9 (.iload 4) 2 11 := ⟨by decide +kernel, rfl⟩
theorem e6_11 : Dc method_7_code 11 (.iload 5) 2 13 := ⟨by decide +kernel, rfl⟩
theorem e6_13 : Dc method_7_code 13 (.invokestatic 32) 3 16 := ⟨by decide +kernel, rfl⟩
theorem e6_16 : Dc method_7_code 16 (.iaload) 1 17 := ⟨by decide +kernel, rfl⟩
theorem e6_17 : Dc method_7_code 17 (.aload_n 1) 1 18 := ⟨by decide +kernel, rfl⟩
theorem e6_18 : Dc method_7_code 18 (.iload 5) 2 20 := ⟨by decide +kernel, rfl⟩
theorem e6_20 : Dc method_7_code 20 (.iaload) 1 21 := ⟨by decide +kernel, rfl⟩
theorem e6_21 : Dc method_7_code 21 (.if_icmp .ne 7) 3 24 := ⟨by decide +kernel, rfl⟩
theorem e6_24 : Dc method_7_code 24 (.iconst 1) 1 25 := ⟨by decide +kernel, rfl⟩
theorem e6_25 : Dc method_7_code 25 (.goto 4) 3 28 := ⟨by decide +kernel, rfl⟩
theorem e6_29 : Dc method_7_code 29 (.ireturn) 1 30 := ⟨by decide +kernel, rfl⟩
theorem pn_0 : plainName "com/example/stemcycle/stemcycle/TourNormalisedPinLaw" = true := by first | (simp [plainName, overriddenIn]; done) | decide +kernel
theorem hy_1 : "com/example/stemcycle/stemcycle/TourNormalisedPinLaw" ≠ "java/lang/invoke/MethodHandle" ∧ "com/example/stemcycle/stemcycle/TourNormalisedPinLaw" ≠ "java/lang/invoke/VarHandle" := by decide
theorem pd_2 : parseMethodDescriptor "(IIZI)I" = some ⟨[.int, .int, .boolean, .int], some .int⟩ := by decide +kernel
theorem pn_3 : plainName "com/example/stemcycle/stemcycle/Tour" = true := by first | (simp [plainName, overriddenIn]; done) | decide +kernel
theorem pd_4 : parseMethodDescriptor "([I[IIIZI)V" = some ⟨[(.array .int), (.array .int), .int, .int, .boolean, .int], none⟩ := by decide +kernel
theorem hy_5 : "com/example/stemcycle/stemcycle/Tour" ≠ "java/lang/invoke/MethodHandle" ∧ "com/example/stemcycle/stemcycle/Tour" ≠ "java/lang/invoke/VarHandle" := by decide
theorem pd_6 : parseMethodDescriptor "([I)[I" = some ⟨[(.array .int)], some (.array .int)⟩ := by decide +kernel
theorem pd_7 : parseMethodDescriptor "([I[IIIZI)Z" = some ⟨[(.array .int), (.array .int), .int, .int, .boolean, .int], some .boolean⟩ := by decide +kernel
theorem pd_8 : parseMethodDescriptor "([I[IIIZ)V" = some ⟨[(.array .int), (.array .int), .int, .int, .boolean], none⟩ := by decide +kernel
theorem pd_9 : parseMethodDescriptor "([III)V" = some ⟨[(.array .int), .int, .int], none⟩ := by decide +kernel
theorem own_sub {x y : Int32} {m n : Int} (h : x.toInt = m) (h2 : y.toInt = n) (l : -1000 ≤ m - n) (u : m - n ≤ 1000) : (x - y).toInt = m - n := by
  have e := c_isub x y
  have l1 := Int32.le_toInt (x - y)
  have l2 := Int32.toInt_lt (x - y)
  omega
theorem own_add {x y : Int32} {m n : Int} (h : x.toInt = m) (h2 : y.toInt = n) (l : -1000 ≤ m + n) (u : m + n ≤ 1000) : (x + y).toInt = m + n := by
  have e := c_iadd x y
  have l1 := Int32.le_toInt (x + y)
  have l2 := Int32.toInt_lt (x + y)
  omega
theorem own_one : (1 : Int32).toInt = 1 := rfl
theorem own_mod {x y : Int32} {m n : Nat} (h : x.toInt = (m : Int)) (h2 : y.toInt = (n : Int)) (hn : 0 < n) : (x % y).toInt = ((m % n : Nat) : Int) := by
  have e := (c_irem x y n h2).1 (by omega)
  rw [e, h]
  omega
theorem own_nz {y : Int32} {n : Nat} (h : y.toInt = (n : Int)) (hn : 0 < n) : y ≠ 0 := fun z => by rw [z] at h; have : (0 : Int32).toInt = 0 := rfl; omega
theorem own_last (H : List GCell) (x y : GCell) : (H ++ [x]).set H.length y = H ++ [y] := by simp
def D4 (a b c d : Int32) : Prop := 1 ≤ a.toInt ∧ a.toInt ≤ 4 ∧ 1 ≤ b.toInt ∧ b.toInt ≤ 4 ∧ 1 ≤ c.toInt ∧ c.toInt ≤ 4 ∧ 1 ≤ d.toInt ∧ d.toInt ≤ 4 ∧ a.toInt ≠ b.toInt ∧ a.toInt ≠ c.toInt ∧ a.toInt ≠ d.toInt ∧ b.toInt ≠ c.toInt ∧ b.toInt ≠ d.toInt ∧ c.toInt ≠ d.toInt
theorem own_ne0 {x : Int32} (h : 1 ≤ x.toInt) : ¬ x = 0 := fun z => by rw [z] at h; exact absurd h (by decide)
instance (a b c d : Int32) : Decidable (D4 a b c d) := by unfold D4; exact inferInstance

set_option maxRecDepth 65536 in
set_option maxHeartbeats 4000000 in
theorem c_swap {l : Launch} {Z : State} {a0 : Array Value} {b : Nat} (hw : ∀ d ∈ tables_1, d.before a0 Z = true) {H : List GCell} {q i j : Nat} {ii jj x0 y0 : Int32} {vs : List Value} (hq : H[q]? = some (ar .int vs)) (hi : ii.toInt = (i : Int)) (hj : jj.toInt = (j : Int)) (hx : vs[i]? = some (.int x0)) (hy : vs[j]? = some (.int y0)) :
    Met l Z a0 b (⟨"com/example/stemcycle/stemcycle/TourNormalisedPinLaw", "swap", "([III)V"⟩ : MethodName) method_3_code 4 none ({ frames := 0, cells := 0, slots := 0, locals := 0 } : Room) [.ref q, .int ii, .int jj] H (fun v H' => v = none ∧ H' = H.set q (ar .int ((vs.set i (.int y0)).set j (.int x0)))) := by
  refine Met.of_go hw (plainFor_of_name pn_0) (L0 := [.val (.ref q), .val (.int ii), .val (.int jj), .unset]) rfl ?_
  intro p e s m args below meth c C
  refine go_aloadN e1_0 rfl rfl ?_
  refine go_iloadN e1_1 rfl ?_
  refine go_iaload e1_2 hq (k := i) hi hx ?_
  refine go_istore_3 e1_3 rfl ?_
  refine go_aloadN e1_4 rfl rfl ?_
  refine go_iloadN e1_5 rfl ?_
  refine go_aloadN e1_6 rfl rfl ?_
  refine go_iloadN e1_7 rfl ?_
  refine go_iaload e1_8 hq (k := j) hj hy ?_
  refine go_iastore e1_9 hq (k := i) hi (List.getElem?_eq_some_iff.mp hx).1 ?_
  refine go_aloadN e1_10 rfl rfl ?_
  refine go_iloadN e1_11 rfl ?_
  refine go_iloadN e1_12 rfl ?_
  refine go_iastore e1_13 (get_eq hq) (k := j) hj (by rw [List.length_set]; exact (List.getElem?_eq_some_iff.mp hy).1) ?_
  refine go_return e1_14 rfl (by decide) (by decide) ?_
  exact ⟨rfl, by rw [List.set_set]⟩
set_option maxRecDepth 65536 in
set_option maxHeartbeats 4000000 in
theorem c_put0 {l : Launch} {Z : State} {a0 : Array Value} {b : Nat} (hw : ∀ d ∈ tables_1, d.before a0 Z = true) {H : List GCell} {q r i m0 : Nat} {mm ii rv : Int32} (hm : mm.toInt = (m0 : Int)) (hi : ii.toInt = (i : Int)) (h : m0 ≤ i) :
    Met l Z a0 b (⟨"com/example/stemcycle/stemcycle/TourNormalisedPinLaw", "put", "([I[IIIZ)V"⟩ : MethodName) method_4_code 5 none ({ frames := 0, cells := 0, slots := 0, locals := 0 } : Room) [.ref q, .ref r, .int mm, .int ii, .int rv] H (fun v H' => v = none ∧ H' = H) := by
  refine Met.of_go hw (plainFor_of_name pn_0) (L0 := [.val (.ref q), .val (.ref r), .val (.int mm), .val (.int ii), .val (.int rv)]) rfl ?_
  intro p e s m args below meth c C
  refine go_iloadN e2_0 rfl ?_
  refine go_iloadN e2_1 rfl ?_
  refine go_icgeY e2_2 (tg := 28) (by decide) (by omega) ?_
  refine go_return e2_28 rfl (by decide) (by decide) ?_
  exact ⟨rfl, rfl⟩
set_option maxRecDepth 65536 in
set_option maxHeartbeats 4000000 in
theorem c_put1 {l : Launch} {Z : State} {a0 : Array Value} {b : Nat} (hw : ∀ d ∈ tables_1, d.before a0 Z = true) {H : List GCell} {q r i m0 : Nat} {mm ii rv x0 : Int32} {vs rs : List Value} (hq : H[q]? = some (ar .int vs)) (hr : H[r]? = some (ar .int rs)) (hm : mm.toInt = (m0 : Int)) (hi : ii.toInt = (i : Int)) (h : i < m0) (hsm : m0 ≤ 100) (hl : i + 1 < vs.length) (hx0 : rv = 0 → rs[i]? = some (.int x0)) (hx1 : ¬ rv = 0 → rs[m0 - 1 - i]? = some (.int x0)) :
    Met l Z a0 b (⟨"com/example/stemcycle/stemcycle/TourNormalisedPinLaw", "put", "([I[IIIZ)V"⟩ : MethodName) method_4_code 5 none ({ frames := 0, cells := 0, slots := 0, locals := 0 } : Room) [.ref q, .ref r, .int mm, .int ii, .int rv] H (fun v H' => v = none ∧ H' = H.set q (ar .int (vs.set (i + 1) (.int x0)))) := by
  refine Met.of_go hw (plainFor_of_name pn_0) (L0 := [.val (.ref q), .val (.ref r), .val (.int mm), .val (.int ii), .val (.int rv)]) rfl ?_
  intro p e s m args below meth c C
  refine go_iloadN e2_0 rfl ?_
  refine go_iloadN e2_1 rfl ?_
  refine go_icgeN e2_2 (tg := 28) (by decide) (by omega) ?_
  refine go_aloadN e2_5 rfl rfl ?_
  refine go_iconst e2_6 (x := 1) rfl ?_
  refine go_iloadN e2_7 rfl ?_
  refine go_iadd e2_8 ?_
  refine go_iload e2_9 rfl ?_
  refine go_ifeq e2_11 (tg := 24) (by decide) ?_ ?_
  · intro c11
    refine go_aloadN e2_24 rfl rfl ?_
    refine go_iloadN e2_25 rfl ?_
    refine go_iaload e2_26 hr (k := i) hi (hx0 c11) ?_
    refine go_iastore e2_27 hq (k := i + 1) (by rw [own_add own_one hi (by omega) (by omega)]; omega) hl ?_
    refine go_return e2_28 rfl (by decide) (by decide) ?_
    exact ⟨rfl, rfl⟩
  · intro c11
    refine go_aloadN e2_14 rfl rfl ?_
    refine go_iloadN e2_15 rfl ?_
    refine go_iconst e2_16 (x := 1) rfl ?_
    refine go_isub e2_17 ?_
    refine go_iloadN e2_18 rfl ?_
    refine go_isub e2_19 ?_
    refine go_iaload e2_20 hr (k := m0 - 1 - i) (by rw [own_sub (own_sub hm own_one (by omega) (by omega)) hi (by omega) (by omega)]; omega) (hx1 c11) ?_
    refine go_goto e2_21 (tg := 27) (by decide) ?_
    refine go_iastore e2_27 hq (k := i + 1) (by rw [own_add own_one hi (by omega) (by omega)]; omega) hl ?_
    refine go_return e2_28 rfl (by decide) (by decide) ?_
    exact ⟨rfl, rfl⟩
set_option maxRecDepth 65536 in
set_option maxHeartbeats 4000000 in
theorem c_at {l : Launch} {Z : State} {a0 : Array Value} {b : Nat} (hw : ∀ d ∈ tables_1, d.before a0 Z = true) {H : List GCell} {n s1 i : Nat} {nn ss fw ii : Int32} (hn : nn.toInt = (n : Int)) (hs : ss.toInt = (s1 : Int)) (hi : ii.toInt = (i : Int)) (hin : i < n) (hsm : n ≤ 100) (hss : s1 < n) :
    Met l Z a0 b (⟨"com/example/stemcycle/stemcycle/TourNormalisedPinLaw", "at", "(IIZI)I"⟩ : MethodName) method_5_code 4 (some .int) ({ frames := 0, cells := 0, slots := 0, locals := 0 } : Room) [.int nn, .int ss, .int fw, .int ii] H (fun v H' => ∃ u, v = some u ∧ (∃ z : Int32, u = .int z ∧ z.toInt = ((if fw = 0 then (s1 + n - i) % n else (s1 + i) % n : Nat) : Int) ∧ H' = H)) := by
  refine Met.of_go hw (plainFor_of_name pn_0) (L0 := [.val (.int nn), .val (.int ss), .val (.int fw), .val (.int ii)]) rfl ?_
  intro p e s m args below meth c C
  refine go_iloadN e4_0 rfl ?_
  refine go_ifeq e4_1 (tg := 12) (by decide) ?_ ?_
  · intro c1
    refine go_iloadN e4_12 rfl ?_
    refine go_iloadN e4_13 rfl ?_
    refine go_isub e4_14 ?_
    refine go_iloadN e4_15 rfl ?_
    refine go_iadd e4_16 ?_
    refine go_iloadN e4_17 rfl ?_
    refine go_irem e4_18 (own_nz hn (by omega)) ?_
    refine go_ireturn e4_19 rfl (by decide) (by decide) ?_
    exact ⟨_, rfl, _, rfl, by rw [if_pos c1]; exact own_mod (by rw [own_add (own_sub hs hi (by omega) (by omega)) hn (by omega) (by omega)]; omega) hn (by omega), rfl⟩
  · intro c1
    refine go_iloadN e4_4 rfl ?_
    refine go_iloadN e4_5 rfl ?_
    refine go_iadd e4_6 ?_
    refine go_iloadN e4_7 rfl ?_
    refine go_irem e4_8 (own_nz hn (by omega)) ?_
    refine go_goto e4_9 (tg := 19) (by decide) ?_
    refine go_ireturn e4_19 rfl (by decide) (by decide) ?_
    exact ⟨_, rfl, _, rfl, by rw [if_neg c1]; exact own_mod (by rw [own_add hs hi (by omega) (by omega)]; omega) hn (by omega), rfl⟩
set_option maxRecDepth 65536 in
set_option maxHeartbeats 4000000 in
theorem c_place0 {l : Launch} {Z : State} {a0 : Array Value} {b : Nat} (hw : ∀ d ∈ tables_1, d.before a0 Z = true) {H : List GCell} {q r n i : Nat} {nn ss fw ii : Int32} (hn : nn.toInt = (n : Int)) (hi : ii.toInt = (i : Int)) (hin : n ≤ i) :
    Met l Z a0 b (⟨"com/example/stemcycle/stemcycle/TourNormalisedPinLaw", "place", "([I[IIIZI)V"⟩ : MethodName) method_6_code 6 none ({ frames := 1, cells := 0, slots := 0, locals := 16 } : Room) [.ref q, .ref r, .int nn, .int ss, .int fw, .int ii] H (fun v H' => v = none ∧ H' = H) := by
  refine Met.of_go hw (plainFor_of_name pn_0) (L0 := [.val (.ref q), .val (.ref r), .val (.int nn), .val (.int ss), .val (.int fw), .val (.int ii)]) rfl ?_
  intro p e s m args below meth c C
  refine go_iload e3_0 rfl ?_
  refine go_iloadN e3_2 rfl ?_
  refine go_icgeY e3_3 (tg := 21) (by decide) (by omega) ?_
  refine go_return e3_21 rfl (by decide) (by decide) ?_
  exact ⟨rfl, rfl⟩
set_option maxRecDepth 65536 in
set_option maxHeartbeats 4000000 in
theorem c_place1 {l : Launch} {Z : State} {a0 : Array Value} {b : Nat} (hw : ∀ d ∈ tables_1, d.before a0 Z = true) {H : List GCell} {q r n s1 i K : Nat} {nn ss fw ii : Int32} {cs ws : List Value} {x0 : Int32} (hq : H[q]? = some (ar .int cs)) (hr : H[r]? = some (ar .int ws)) (hn : nn.toInt = (n : Int)) (hs : ss.toInt = (s1 : Int)) (hi : ii.toInt = (i : Int)) (hin : i < n) (hsm : n ≤ 100) (hss : s1 < n) (hK : (if fw = 0 then (s1 + n - i) % n else (s1 + i) % n) = K) (hx : ws[i]? = some (.int x0)) (hl : K < cs.length) :
    Met l Z a0 b (⟨"com/example/stemcycle/stemcycle/TourNormalisedPinLaw", "place", "([I[IIIZI)V"⟩ : MethodName) method_6_code 6 none ({ frames := 1, cells := 0, slots := 0, locals := 16 } : Room) [.ref q, .ref r, .int nn, .int ss, .int fw, .int ii] H (fun v H' => v = none ∧ H' = H.set q (ar .int (cs.set K (.int x0)))) := by
  refine Met.of_go hw (plainFor_of_name pn_0) (L0 := [.val (.ref q), .val (.ref r), .val (.int nn), .val (.int ss), .val (.int fw), .val (.int ii)]) rfl ?_
  intro p e s m args below meth c C
  refine go_iload e3_0 rfl ?_
  refine go_iloadN e3_2 rfl ?_
  refine go_icgeN e3_3 (tg := 21) (by decide) (by omega) ?_
  refine go_aloadN e3_6 rfl rfl ?_
  refine go_iloadN e3_7 rfl ?_
  refine go_iloadN e3_8 rfl ?_
  refine go_iload e3_9 rfl ?_
  refine go_iload e3_11 rfl ?_
  refine go_static_4 e3_13 (wd 12 rfl) (wd 13 rfl) (wd 14 rfl) (wd 4 rfl) hy_1 pd_2 rfl (c_at hw hn hs hi hin hsm hss) rfl 1 rfl (by decide) (by decide) (by decide) (by decide) ?_
  rintro _ _ ⟨z, rfl, hz, rfl⟩
  refine go_aloadN e3_16 rfl rfl ?_
  refine go_iload e3_17 rfl ?_
  refine go_iaload e3_19 hr (k := i) hi hx ?_
  refine go_iastore e3_20 hq (k := K) (by rw [hz, hK]) hl ?_
  refine go_return e3_21 rfl (by decide) (by decide) ?_
  exact ⟨rfl, rfl⟩
set_option maxRecDepth 65536 in
set_option maxHeartbeats 4000000 in
theorem c_same0 {l : Launch} {Z : State} {a0 : Array Value} {b : Nat} (hw : ∀ d ∈ tables_1, d.before a0 Z = true) {H : List GCell} {q r n i : Nat} {nn ss fw ii : Int32} (hn : nn.toInt = (n : Int)) (hi : ii.toInt = (i : Int)) (hin : n ≤ i) :
    Met l Z a0 b (⟨"com/example/stemcycle/stemcycle/TourNormalisedPinLaw", "same", "([I[IIIZI)Z"⟩ : MethodName) method_7_code 6 (some .boolean) ({ frames := 1, cells := 0, slots := 0, locals := 16 } : Room) [.ref q, .ref r, .int nn, .int ss, .int fw, .int ii] H (fun v H' => ∃ u, v = some u ∧ (u = .int 1 ∧ H' = H)) := by
  refine Met.of_go hw (plainFor_of_name pn_0) (L0 := [.val (.ref q), .val (.ref r), .val (.int nn), .val (.int ss), .val (.int fw), .val (.int ii)]) rfl ?_
  intro p e s m args below meth c C
  refine go_iload e6_0 rfl ?_
  refine go_iloadN e6_2 rfl ?_
  refine go_icgeY e6_3 (tg := 24) (by decide) (by omega) ?_
  refine go_iconst e6_24 (x := 1) rfl ?_
  refine go_goto e6_25 (tg := 29) (by decide) ?_
  refine go_zreturn e6_29 rfl rfl (by decide) (by decide) ?_
  exact ⟨_, rfl, rfl, rfl⟩
set_option maxRecDepth 65536 in
set_option maxHeartbeats 4000000 in
theorem c_same1 {l : Launch} {Z : State} {a0 : Array Value} {b : Nat} (hw : ∀ d ∈ tables_1, d.before a0 Z = true) {H : List GCell} {q r n s1 i K : Nat} {nn ss fw ii : Int32} {cs ws : List Value} {x0 : Int32} (hq : H[q]? = some (ar .int cs)) (hr : H[r]? = some (ar .int ws)) (hn : nn.toInt = (n : Int)) (hs : ss.toInt = (s1 : Int)) (hi : ii.toInt = (i : Int)) (hin : i < n) (hsm : n ≤ 100) (hss : s1 < n) (hK : (if fw = 0 then (s1 + n - i) % n else (s1 + i) % n) = K) (hx : ws[i]? = some (.int x0)) (hc : cs[K]? = some (.int x0)) :
    Met l Z a0 b (⟨"com/example/stemcycle/stemcycle/TourNormalisedPinLaw", "same", "([I[IIIZI)Z"⟩ : MethodName) method_7_code 6 (some .boolean) ({ frames := 1, cells := 0, slots := 0, locals := 16 } : Room) [.ref q, .ref r, .int nn, .int ss, .int fw, .int ii] H (fun v H' => ∃ u, v = some u ∧ (u = .int 1 ∧ H' = H)) := by
  refine Met.of_go hw (plainFor_of_name pn_0) (L0 := [.val (.ref q), .val (.ref r), .val (.int nn), .val (.int ss), .val (.int fw), .val (.int ii)]) rfl ?_
  intro p e s m args below meth c C
  refine go_iload e6_0 rfl ?_
  refine go_iloadN e6_2 rfl ?_
  refine go_icgeN e6_3 (tg := 24) (by decide) (by omega) ?_
  refine go_aloadN e6_6 rfl rfl ?_
  refine go_iloadN e6_7 rfl ?_
  refine go_iloadN e6_8 rfl ?_
  refine go_iload e6_9 rfl ?_
  refine go_iload e6_11 rfl ?_
  refine go_static_4 e6_13 (wd 12 rfl) (wd 13 rfl) (wd 14 rfl) (wd 4 rfl) hy_1 pd_2 rfl (c_at hw hn hs hi hin hsm hss) rfl 1 rfl (by decide) (by decide) (by decide) (by decide) ?_
  rintro _ _ ⟨z, rfl, hz, rfl⟩
  refine go_iaload e6_16 hq (k := K) (by rw [hz, hK]) hc ?_
  refine go_aloadN e6_17 rfl rfl ?_
  refine go_iload e6_18 rfl ?_
  refine go_iaload e6_20 hr (k := i) hi hx ?_
  refine go_icneN e6_21 (tg := 28) (by decide) rfl ?_
  refine go_iconst e6_24 (x := 1) rfl ?_
  refine go_goto e6_25 (tg := 29) (by decide) ?_
  refine go_zreturn e6_29 rfl rfl (by decide) (by decide) ?_
  exact ⟨_, rfl, rfl, rfl⟩
set_option maxRecDepth 65536 in
set_option maxHeartbeats 4000000 in
theorem c_norm {l : Launch} {Z : State} {a0 : Array Value} {b : Nat} (hw : ∀ d ∈ tables_1, d.before a0 Z = true) {H : List GCell} {q n st : Nat} {nn va vb : Int32} {vs : List Value} (hq : H[q]? = some (ar .int vs)) (hvl : vs.length = n) (hn : nn.toInt = (n : Int)) (hn5 : n ≤ 5) (hvi : ∀ v ∈ vs, ∃ x : Int32, v = .int x) (hst : st < n) (hz0 : vs[st]? = some (.int 0)) (hnz : ∀ j, j < st → ∃ x : Int32, vs[j]? = some (.int x) ∧ ¬ x = 0) (ha0 : vs[(st + 1) % n]? = some (.int va)) (hb0 : vs[(st + n - 1) % n]? = some (.int vb)) :
    Met l Z a0 b (⟨"com/example/stemcycle/stemcycle/Tour", "normalised", "([I)[I"⟩ : MethodName) prog_60_method_7_code 7 (some (.array .int)) ({ frames := 0, cells := 1, slots := 5, locals := 0 } : Room) [.ref q] H (fun v H' => ∃ u, v = some u ∧ (u = .ref H.length ∧ ∃ out, H' = H ++ [ar .int out] ∧ out.length = n ∧ ∀ j, j < n → out[j]? = vs[(st + j * (if va.toInt ≤ vb.toInt then 1 else n - 1)) % n]?)) := by
  have hnl : vs.length.toInt32 = nn := Int32.toInt_inj.mp (by rw [hvl, hn]; exact len_toInt (by omega))
  refine Met.of_go hw (plainFor_of_name pn_3) (L0 := [.val (.ref q), .unset, .unset, .unset, .unset, .unset, .unset]) rfl ?_
  intro p e s m args below meth c C
  have loop2 : ∀ (s2 sp : Int32) (stp : Nat), sp.toInt = (stp : Int) → stp ≤ n → stp = (if va.toInt ≤ vb.toInt then 1 else n - 1) → ∀ (r i : Nat) (ii pos : Int32) (out : List Value), i + r = n → ii.toInt = (i : Int) → pos.toInt = (((st + i * stp) % n : Nat) : Int) → out.length = n → (∀ j, j < i → out[j]? = vs[(st + j * stp) % n]?) → Go C 55 [.val (.ref q), .val (.int nn), .val (.int s2), .val (.int sp), .val (.ref H.length), .val (.int ii), .val (.int pos)] [] (H ++ [ar .int out]) (0 + 1) (0 + 5) := by
    intro s2 sp stp hsp hspn hspe r
    induction r with
    | zero =>
      intro i ii pos out hir hii hpos hol hout
      subst hspe
      refine go_iload e5_55 rfl ?_
      refine go_iloadN e5_57 rfl ?_
      refine go_icgeY e5_58 (tg := 84) (by decide) (by rw [hn, hii]; omega) ?_
      refine go_aload e5_84 rfl rfl ?_
      refine go_areturn e5_86 rfl rfl rfl (by decide) (by decide) ?_
      exact ⟨_, rfl, rfl, out, rfl, hol, fun j hj => hout j (by omega)⟩
    | succ r ih =>
      intro i ii pos out hir hii hpos hol hout
      have hmm : (st + i * stp) % n < n := Nat.mod_lt _ (by omega)
      obtain ⟨x, hv0⟩ : ∃ x : Int32, vs[(st + i * stp) % n]? = some (.int x) := by
        obtain ⟨x, hx⟩ := hvi _ (List.getElem_mem (show (st + i * stp) % n < vs.length by omega))
        exact ⟨x, by rw [List.getElem?_eq_getElem (by omega), hx]⟩
      refine go_iload e5_55 rfl ?_
      refine go_iloadN e5_57 rfl ?_
      refine go_icgeN e5_58 (tg := 84) (by decide) (by rw [hn, hii]; omega) ?_
      refine go_aload e5_61 rfl rfl ?_
      refine go_iload e5_63 rfl ?_
      refine go_aloadN e5_65 rfl rfl ?_
      refine go_iload e5_66 rfl ?_
      refine go_iaload e5_68 (get_app hq) (k := (st + i * stp) % n) hpos hv0 ?_
      refine go_iastore e5_69 get_last (k := i) hii (by rw [hol]; omega) ?_
      rw [own_last]
      refine go_iinc_5 e5_70 (z := 1) rfl ?_
      refine go_iload e5_73 rfl ?_
      refine go_iloadN e5_75 rfl ?_
      refine go_iadd e5_76 ?_
      refine go_iloadN e5_77 rfl ?_
      refine go_irem e5_78 (own_nz hn (by omega)) ?_
      refine go_istore_6 e5_79 rfl ?_
      refine go_goto e5_81 (tg := 55) (by decide) ?_
      refine ih (i + 1) (ii + 1) _ _ (by omega) (by rw [own_add hii own_one (by omega) (by omega)]; omega) ?_ (by rw [List.length_set]; exact hol) ?_
      · rw [own_mod (m := (st + i * stp) % n + stp) (by rw [own_add hpos hsp (by omega) (by omega)]; omega) hn (by omega), Nat.mod_add_mod, Nat.succ_mul, Nat.add_assoc]
      · intro j hj
        rw [List.getElem?_set]
        by_cases e : i = j
        · subst e; rw [if_pos rfl, if_pos (by rw [hol]; omega), hv0]
        · rw [if_neg e]; exact hout j (by omega)
  have loop1 : ∀ (r j : Nat) (jj : Int32), j + r = st → jj.toInt = (j : Int) → Go C 5 [.val (.ref q), .val (.int nn), .val (.int jj), .unset, .unset, .unset, .unset] [] H 0 0 := by
    intro r
    induction r with
    | zero =>
      intro j jj hjr hjj
      refine go_aloadN e5_5 rfl rfl ?_
      refine go_iloadN e5_6 rfl ?_
      refine go_iaload e5_7 hq (k := j) hjj (by rw [show j = st by omega]; exact hz0) ?_
      refine go_ifeqY e5_8 (tg := 17) (by decide) rfl ?_
      have hjj : jj.toInt = (st : Int) := by rw [hjj]; omega
      refine go_aloadN e5_17 rfl rfl ?_
      refine go_iloadN e5_18 rfl ?_
      refine go_iconst e5_19 (x := 1) rfl ?_
      refine go_iadd e5_20 ?_
      refine go_iloadN e5_21 rfl ?_
      refine go_irem e5_22 (own_nz hn (by omega)) ?_
      refine go_iaload e5_23 hq (k := (st + 1) % n) (own_mod (by rw [own_add hjj own_one (by omega) (by omega)]; omega) hn (by omega)) ha0 ?_
      refine go_aloadN e5_24 rfl rfl ?_
      refine go_iloadN e5_25 rfl ?_
      refine go_iloadN e5_26 rfl ?_
      refine go_iadd e5_27 ?_
      refine go_iconst e5_28 (x := 1) rfl ?_
      refine go_isub e5_29 ?_
      refine go_iloadN e5_30 rfl ?_
      refine go_irem e5_31 (own_nz hn (by omega)) ?_
      refine go_iaload e5_32 hq (k := (st + n - 1) % n) (own_mod (by rw [own_sub (own_add hjj hn (by omega) (by omega)) own_one (by omega) (by omega)]; omega) hn (by omega)) hb0 ?_
      refine go_icgt e5_33 (tg := 40) (by decide) ?_ ?_
      · intro c33
        refine go_iloadN e5_40 rfl ?_
        refine go_iconst e5_41 (x := 1) rfl ?_
        refine go_isub e5_42 ?_
        refine go_istore_3 e5_43 rfl ?_
        refine go_iloadN e5_44 rfl ?_
        refine go_newarray e5_45 (wd 1 rfl) (k := n) hn (vs := List.replicate n (.int 0)) rfl (cap := 5) hn5 (by decide) (by decide) (by decide) ?_
        refine go_astore_4 e5_47 rfl rfl ?_
        refine go_iconst e5_49 (x := 0) rfl ?_
        refine go_istore_5 e5_50 rfl ?_
        refine go_iloadN e5_52 rfl ?_
        refine go_istore_6 e5_53 rfl ?_
        exact loop2 jj (nn - 1) (n - 1) (by rw [own_sub hn own_one (by omega) (by omega)]; omega) (by omega) (by rw [if_neg (by omega)]) n 0 0 jj _ (by omega) rfl (by rw [hjj, Nat.zero_mul, Nat.add_zero, Nat.mod_eq_of_lt hst]) (by simp) (fun j hj => by omega)
      · intro c33
        refine go_iconst e5_36 (x := 1) rfl ?_
        refine go_goto e5_37 (tg := 43) (by decide) ?_
        refine go_istore_3 e5_43 rfl ?_
        refine go_iloadN e5_44 rfl ?_
        refine go_newarray e5_45 (wd 1 rfl) (k := n) hn (vs := List.replicate n (.int 0)) rfl (cap := 5) hn5 (by decide) (by decide) (by decide) ?_
        refine go_astore_4 e5_47 rfl rfl ?_
        refine go_iconst e5_49 (x := 0) rfl ?_
        refine go_istore_5 e5_50 rfl ?_
        refine go_iloadN e5_52 rfl ?_
        refine go_istore_6 e5_53 rfl ?_
        exact loop2 jj 1 1 rfl (by omega) (by rw [if_pos (by omega)]) n 0 0 jj _ (by omega) rfl (by rw [hjj, Nat.zero_mul, Nat.add_zero, Nat.mod_eq_of_lt hst]) (by simp) (fun j hj => by omega)
    | succ r ih =>
      intro j jj hjr hjj
      obtain ⟨x, hx, hxn⟩ := hnz j (by omega)
      refine go_aloadN e5_5 rfl rfl ?_
      refine go_iloadN e5_6 rfl ?_
      refine go_iaload e5_7 hq (k := j) hjj hx ?_
      refine go_ifeqN e5_8 (tg := 17) (by decide) hxn ?_
      refine go_iinc_2 e5_11 (z := 1) rfl ?_
      refine go_goto e5_14 (tg := 5) (by decide) ?_
      exact ih (j + 1) (jj + 1) (by omega) (by rw [own_add hjj own_one (by omega) (by omega)]; omega)
  refine go_aloadN e5_0 rfl rfl ?_
  refine go_len e5_1 hq (n := nn) hnl ?_
  refine go_istore_1 e5_2 rfl ?_
  refine go_iconst e5_3 (x := 0) rfl ?_
  refine go_istore_2 e5_4 rfl ?_
  exact loop1 st 0 0 (by omega) rfl
set_option maxRecDepth 65536 in
set_option maxHeartbeats 4000000 in
theorem law_met {l : Launch} {Z : State} {a0 : Array Value} {b : Nat} (hw : ∀ d ∈ tables_1, d.before a0 Z = true) (i0 i1 i2 i3 : Int32) :
    Met l Z a0 b x code maxLocals ret room_1 [.int i0, .int i1, .int i2, .int i3] [] (fun v _ => v = some (.int 1)) := by
  refine Met.of_go hw (plainFor_of_name pn_0) (L0 := [.val (.int i0), .val (.int i1), .val (.int i2), .val (.int i3), .unset, .unset, .unset, .unset, .unset, .unset, .unset, .unset, .unset, .unset, .unset, .unset, .unset, .unset]) rfl ?_
  intro p e s m args below meth c C
  refine go_iconst e0_0 (x := 1) rfl ?_
  refine go_iloadN e0_1 rfl ?_
  refine go_ldc e0_2 (wd 0 rfl) ?_
  refine go_iand e0_4 ?_
  refine go_iconst e0_5 (x := 5) rfl ?_
  refine go_irem e0_6 (by decide) ?_
  refine go_iadd e0_7 ?_
  refine go_istoreX_4 e0_8 rfl ?_
  intro n hn
  refine go_iload e0_10 rfl ?_
  refine go_iconst e0_12 (x := 1) rfl ?_
  refine go_isub e0_13 ?_
  refine go_istoreX_5 e0_14 rfl ?_
  intro mm hmm
  refine go_iloadN e0_16 rfl ?_
  refine go_ldc e0_17 (wd 0 rfl) ?_
  refine go_iand e0_19 ?_
  refine go_bipush e0_20 (x := 24) rfl ?_
  refine go_irem e0_22 (by decide) ?_
  refine go_istoreX_6 e0_23 rfl ?_
  intro c6 hc6
  have hc0 : 0 ≤ c6.toInt := by rw [hc6]; exact ((c_iremV (i1 &&& 2147483647) 24).1 (c_and _ _ (by decide)).1 (by decide)).1
  have hcs : n = 1 ∨ n = 2 ∨ n = 3 ∨ n = 4 ∨ n = 5 := by
    have e1 := (c_irem (i0 &&& 2147483647) 5 5 (by decide)).1 (c_and _ _ (by decide)).1
    have e2 := own_add own_one e1 (by omega) (by omega)
    have e3 : n.toInt = 1 ∨ n.toInt = 2 ∨ n.toInt = 3 ∨ n.toInt = 4 ∨ n.toInt = 5 := by rw [hn]; omega
    rcases e3 with e | e | e | e | e
    · exact Or.inl (Int32.toInt_inj.mp e)
    · exact Or.inr (Or.inl (Int32.toInt_inj.mp e))
    · exact Or.inr (Or.inr (Or.inl (Int32.toInt_inj.mp e)))
    · exact Or.inr (Or.inr (Or.inr (Or.inl (Int32.toInt_inj.mp e))))
    · exact Or.inr (Or.inr (Or.inr (Or.inr (Int32.toInt_inj.mp e))))
  clear hn hc6
  rcases hcs with rfl | rfl | rfl | rfl | rfl
  · obtain rfl : mm = 0 := hmm.trans (by decide)
    have J5 : ∀ (ps rs : List Value) (k9 v10 : Int32), Go C 259 [.val (.int i0), .val (.int i1), .val (.int i2), .val (.int i3), .val (.int 1), .val (.int 0), .val (.int c6), .val (.ref 0), .val (.ref 1), .val (.int k9), .val (.int v10), .val (.ref 2), .unset, .unset, .unset, .unset, .unset, .unset] [] [ar .int ps, ar .int rs, ar .int [.int 0]] 3 9 := by
      intro  ps rs k9 v10 
      refine go_iloadN e0_259 rfl ?_
      refine go_ldc e0_260 (wd 0 rfl) ?_
      refine go_iand e0_262 ?_
      refine go_iload e0_263 rfl ?_
      refine go_irem e0_265 (by decide) ?_
      refine go_istoreX_12 e0_266 rfl ?_
      intro sx hsx
      have hcs : sx = 0 := by
        have e2 := (c_irem (i2 &&& 2147483647) 1 1 (by decide)).1 (c_and _ _ (by decide)).1
        have e3 : sx.toInt = 0 := by rw [hsx]; omega
        exact Int32.toInt_inj.mp e3
      clear hsx
      rcases hcs with rfl
      · refine go_iloadN e0_268 rfl ?_
        refine go_iconst e0_269 (x := 1) rfl ?_
        refine go_iand e0_270 ?_
        refine go_ifeq e0_271 (tg := 278) (by decide) ?_ ?_
        · intro c271
          refine go_iconst e0_278 (x := 0) rfl ?_
          refine go_istore_13 e0_279 rfl ?_
          refine go_iload e0_281 rfl ?_
          refine go_newarray e0_283 (wd 1 rfl) (k := 1) rfl (vs := [.int 0]) rfl (cap := 1) (by decide) (by decide) (by decide) (by decide) ?_
          simp only [List.replicate_succ, List.replicate_zero, List.set_cons_zero, List.set_cons_succ, List.length_nil, List.length_cons, Nat.zero_add, Nat.reduceAdd, List.nil_append, List.cons_append]
          refine go_astore_14 e0_285 rfl rfl ?_
          refine go_aload e0_287 rfl rfl ?_
          refine go_aload e0_289 rfl rfl ?_
          refine go_iload e0_291 rfl ?_
          refine go_iload e0_293 rfl ?_
          refine go_iload e0_295 rfl ?_
          refine go_iconst e0_297 (x := 0) rfl ?_
          refine go_staticV_6 e0_298 (wd 9 rfl) (wd 10 rfl) (wd 11 rfl) (wd 4 rfl) hy_1 pd_4 rfl (c_place1 hw (n := 1) (s1 := 0) (i := 0) (K := 0) rfl rfl (by decide) (by decide) (by decide) (by decide) (by decide) (by decide) (by decide) rfl (Nat.le_of_ble_eq_true rfl)) rfl 0 rfl (by decide) (by decide) (by decide) (by decide) ?_
          rintro _ rfl
          try simp only [List.replicate_succ, List.replicate_zero, List.set_cons_zero, List.set_cons_succ, List.length_nil, List.length_cons, Nat.zero_add, Nat.reduceAdd, List.nil_append, List.cons_append]
          refine go_aload e0_301 rfl rfl ?_
          refine go_aload e0_303 rfl rfl ?_
          refine go_iload e0_305 rfl ?_
          refine go_iload e0_307 rfl ?_
          refine go_iload e0_309 rfl ?_
          refine go_iconst e0_311 (x := 1) rfl ?_
          refine go_staticV_6 e0_312 (wd 9 rfl) (wd 10 rfl) (wd 11 rfl) (wd 4 rfl) hy_1 pd_4 rfl (c_place0 hw (n := 1) (i := 1) (by decide) (by decide) (by decide)) rfl 0 rfl (by decide) (by decide) (by decide) (by decide) ?_
          rintro _ rfl
          try simp only [List.replicate_succ, List.replicate_zero, List.set_cons_zero, List.set_cons_succ, List.length_nil, List.length_cons, Nat.zero_add, Nat.reduceAdd, List.nil_append, List.cons_append]
          refine go_aload e0_315 rfl rfl ?_
          refine go_aload e0_317 rfl rfl ?_
          refine go_iload e0_319 rfl ?_
          refine go_iload e0_321 rfl ?_
          refine go_iload e0_323 rfl ?_
          refine go_iconst e0_325 (x := 2) rfl ?_
          refine go_staticV_6 e0_326 (wd 9 rfl) (wd 10 rfl) (wd 11 rfl) (wd 4 rfl) hy_1 pd_4 rfl (c_place0 hw (n := 1) (i := 2) (by decide) (by decide) (by decide)) rfl 0 rfl (by decide) (by decide) (by decide) (by decide) ?_
          rintro _ rfl
          try simp only [List.replicate_succ, List.replicate_zero, List.set_cons_zero, List.set_cons_succ, List.length_nil, List.length_cons, Nat.zero_add, Nat.reduceAdd, List.nil_append, List.cons_append]
          refine go_aload e0_329 rfl rfl ?_
          refine go_aload e0_331 rfl rfl ?_
          refine go_iload e0_333 rfl ?_
          refine go_iload e0_335 rfl ?_
          refine go_iload e0_337 rfl ?_
          refine go_iconst e0_339 (x := 3) rfl ?_
          refine go_staticV_6 e0_340 (wd 9 rfl) (wd 10 rfl) (wd 11 rfl) (wd 4 rfl) hy_1 pd_4 rfl (c_place0 hw (n := 1) (i := 3) (by decide) (by decide) (by decide)) rfl 0 rfl (by decide) (by decide) (by decide) (by decide) ?_
          rintro _ rfl
          try simp only [List.replicate_succ, List.replicate_zero, List.set_cons_zero, List.set_cons_succ, List.length_nil, List.length_cons, Nat.zero_add, Nat.reduceAdd, List.nil_append, List.cons_append]
          refine go_aload e0_343 rfl rfl ?_
          refine go_aload e0_345 rfl rfl ?_
          refine go_iload e0_347 rfl ?_
          refine go_iload e0_349 rfl ?_
          refine go_iload e0_351 rfl ?_
          refine go_iconst e0_353 (x := 4) rfl ?_
          refine go_staticV_6 e0_354 (wd 9 rfl) (wd 10 rfl) (wd 11 rfl) (wd 4 rfl) hy_1 pd_4 rfl (c_place0 hw (n := 1) (i := 4) (by decide) (by decide) (by decide)) rfl 0 rfl (by decide) (by decide) (by decide) (by decide) ?_
          rintro _ rfl
          try simp only [List.replicate_succ, List.replicate_zero, List.set_cons_zero, List.set_cons_succ, List.length_nil, List.length_cons, Nat.zero_add, Nat.reduceAdd, List.nil_append, List.cons_append]
          refine go_aload e0_357 rfl rfl ?_
          refine go_static_1 e0_359 (wd 15 rfl) (wd 16 rfl) (wd 18 rfl) (wd 17 rfl) hy_5 pd_6 rfl (c_norm hw (n := 1) (st := 0) (nn := 1) (va := 0) (vb := 0) rfl rfl (by decide) (by decide) (by intro v hv; simp only [List.mem_cons, List.not_mem_nil, or_false] at hv; rcases hv with rfl <;> exact ⟨_, rfl⟩) (by decide) rfl (fun j hj => absurd hj (Nat.not_lt_zero _)) rfl rfl) rfl 0 rfl (by decide) (by decide) (by decide) (by decide) ?_
          rintro _ _ ⟨rfl, out, rfl, hol, hout⟩
          rw [if_pos (Int.le_refl _)] at hout
          have o0 : out[0]? = some (.int 0) := hout 0 (by decide)
          try simp only [List.replicate_succ, List.replicate_zero, List.set_cons_zero, List.set_cons_succ, List.length_nil, List.length_cons, Nat.zero_add, Nat.reduceAdd, List.nil_append, List.cons_append]
          refine go_astore_15 e0_362 rfl rfl ?_
          refine go_aload e0_364 rfl rfl ?_
          refine go_aload e0_366 rfl rfl ?_
          refine go_acmp e0_368 rfl rfl (same := false) (by decide) (tg := 379) (by decide) ?_
          show Go C 371 _ _ _ _ _
          refine go_aload e0_371 rfl rfl ?_
          refine go_len e0_373 rfl (n := 1) (by rw [hol]; decide) ?_
          refine go_iload e0_374 rfl ?_
          refine go_iceqY e0_376 (tg := 381) (by decide) rfl ?_
          refine go_aload e0_381 rfl rfl ?_
          refine go_aload e0_383 rfl rfl ?_
          refine go_iload e0_385 rfl ?_
          refine go_iconst e0_387 (x := 0) rfl ?_
          refine go_iconst e0_388 (x := 1) rfl ?_
          refine go_iconst e0_389 (x := 0) rfl ?_
          refine go_static_6 e0_390 (wd 19 rfl) (wd 20 rfl) (wd 21 rfl) (wd 4 rfl) hy_1 pd_7 rfl (c_same1 hw (n := 1) (s1 := 0) (i := 0) (K := 0) rfl rfl (by decide) (by decide) (by decide) (by decide) (by decide) (by decide) (by decide) rfl o0) rfl 0 rfl (by decide) (by decide) (by decide) (by decide) ?_
          rintro _ _ ⟨rfl, rfl⟩
          try simp only [List.replicate_succ, List.replicate_zero, List.set_cons_zero, List.set_cons_succ, List.length_nil, List.length_cons, Nat.zero_add, Nat.reduceAdd, List.nil_append, List.cons_append]
          refine go_ifeqN e0_393 (tg := 460) (by decide) (by decide) ?_
          refine go_aload e0_396 rfl rfl ?_
          refine go_aload e0_398 rfl rfl ?_
          refine go_iload e0_400 rfl ?_
          refine go_iconst e0_402 (x := 0) rfl ?_
          refine go_iconst e0_403 (x := 1) rfl ?_
          refine go_iconst e0_404 (x := 1) rfl ?_
          refine go_static_6 e0_405 (wd 19 rfl) (wd 20 rfl) (wd 21 rfl) (wd 4 rfl) hy_1 pd_7 rfl (c_same0 hw (n := 1) (i := 1) (by decide) (by decide) (by decide)) rfl 0 rfl (by decide) (by decide) (by decide) (by decide) ?_
          rintro _ _ ⟨rfl, rfl⟩
          try simp only [List.replicate_succ, List.replicate_zero, List.set_cons_zero, List.set_cons_succ, List.length_nil, List.length_cons, Nat.zero_add, Nat.reduceAdd, List.nil_append, List.cons_append]
          refine go_ifeqN e0_408 (tg := 460) (by decide) (by decide) ?_
          refine go_aload e0_411 rfl rfl ?_
          refine go_aload e0_413 rfl rfl ?_
          refine go_iload e0_415 rfl ?_
          refine go_iconst e0_417 (x := 0) rfl ?_
          refine go_iconst e0_418 (x := 1) rfl ?_
          refine go_iconst e0_419 (x := 2) rfl ?_
          refine go_static_6 e0_420 (wd 19 rfl) (wd 20 rfl) (wd 21 rfl) (wd 4 rfl) hy_1 pd_7 rfl (c_same0 hw (n := 1) (i := 2) (by decide) (by decide) (by decide)) rfl 0 rfl (by decide) (by decide) (by decide) (by decide) ?_
          rintro _ _ ⟨rfl, rfl⟩
          try simp only [List.replicate_succ, List.replicate_zero, List.set_cons_zero, List.set_cons_succ, List.length_nil, List.length_cons, Nat.zero_add, Nat.reduceAdd, List.nil_append, List.cons_append]
          refine go_ifeqN e0_423 (tg := 460) (by decide) (by decide) ?_
          refine go_aload e0_426 rfl rfl ?_
          refine go_aload e0_428 rfl rfl ?_
          refine go_iload e0_430 rfl ?_
          refine go_iconst e0_432 (x := 0) rfl ?_
          refine go_iconst e0_433 (x := 1) rfl ?_
          refine go_iconst e0_434 (x := 3) rfl ?_
          refine go_static_6 e0_435 (wd 19 rfl) (wd 20 rfl) (wd 21 rfl) (wd 4 rfl) hy_1 pd_7 rfl (c_same0 hw (n := 1) (i := 3) (by decide) (by decide) (by decide)) rfl 0 rfl (by decide) (by decide) (by decide) (by decide) ?_
          rintro _ _ ⟨rfl, rfl⟩
          try simp only [List.replicate_succ, List.replicate_zero, List.set_cons_zero, List.set_cons_succ, List.length_nil, List.length_cons, Nat.zero_add, Nat.reduceAdd, List.nil_append, List.cons_append]
          refine go_ifeqN e0_438 (tg := 460) (by decide) (by decide) ?_
          refine go_aload e0_441 rfl rfl ?_
          refine go_aload e0_443 rfl rfl ?_
          refine go_iload e0_445 rfl ?_
          refine go_iconst e0_447 (x := 0) rfl ?_
          refine go_iconst e0_448 (x := 1) rfl ?_
          refine go_iconst e0_449 (x := 4) rfl ?_
          refine go_static_6 e0_450 (wd 19 rfl) (wd 20 rfl) (wd 21 rfl) (wd 4 rfl) hy_1 pd_7 rfl (c_same0 hw (n := 1) (i := 4) (by decide) (by decide) (by decide)) rfl 0 rfl (by decide) (by decide) (by decide) (by decide) ?_
          rintro _ _ ⟨rfl, rfl⟩
          try simp only [List.replicate_succ, List.replicate_zero, List.set_cons_zero, List.set_cons_succ, List.length_nil, List.length_cons, Nat.zero_add, Nat.reduceAdd, List.nil_append, List.cons_append]
          refine go_ifeqN e0_453 (tg := 460) (by decide) (by decide) ?_
          refine go_iconst e0_456 (x := 1) rfl ?_
          refine go_goto e0_457 (tg := 461) (by decide) ?_
          refine go_istore_16 e0_461 rfl ?_
          refine go_aload e0_463 rfl rfl ?_
          refine go_aload e0_465 rfl rfl ?_
          refine go_iload e0_467 rfl ?_
          refine go_iload e0_469 rfl ?_
          refine go_iload e0_471 rfl ?_
          refine go_iconst e0_473 (x := 0) rfl ?_
          refine go_static_6 e0_474 (wd 19 rfl) (wd 20 rfl) (wd 21 rfl) (wd 4 rfl) hy_1 pd_7 rfl (c_same1 hw (n := 1) (s1 := 0) (i := 0) (K := 0) rfl rfl (by decide) (by decide) (by decide) (by decide) (by decide) (by decide) (by decide) rfl rfl) rfl 0 rfl (by decide) (by decide) (by decide) (by decide) ?_
          rintro _ _ ⟨rfl, rfl⟩
          try simp only [List.replicate_succ, List.replicate_zero, List.set_cons_zero, List.set_cons_succ, List.length_nil, List.length_cons, Nat.zero_add, Nat.reduceAdd, List.nil_append, List.cons_append]
          refine go_ifeqN e0_477 (tg := 552) (by decide) (by decide) ?_
          refine go_aload e0_480 rfl rfl ?_
          refine go_aload e0_482 rfl rfl ?_
          refine go_iload e0_484 rfl ?_
          refine go_iload e0_486 rfl ?_
          refine go_iload e0_488 rfl ?_
          refine go_iconst e0_490 (x := 1) rfl ?_
          refine go_static_6 e0_491 (wd 19 rfl) (wd 20 rfl) (wd 21 rfl) (wd 4 rfl) hy_1 pd_7 rfl (c_same0 hw (n := 1) (i := 1) (by decide) (by decide) (by decide)) rfl 0 rfl (by decide) (by decide) (by decide) (by decide) ?_
          rintro _ _ ⟨rfl, rfl⟩
          try simp only [List.replicate_succ, List.replicate_zero, List.set_cons_zero, List.set_cons_succ, List.length_nil, List.length_cons, Nat.zero_add, Nat.reduceAdd, List.nil_append, List.cons_append]
          refine go_ifeqN e0_494 (tg := 552) (by decide) (by decide) ?_
          refine go_aload e0_497 rfl rfl ?_
          refine go_aload e0_499 rfl rfl ?_
          refine go_iload e0_501 rfl ?_
          refine go_iload e0_503 rfl ?_
          refine go_iload e0_505 rfl ?_
          refine go_iconst e0_507 (x := 2) rfl ?_
          refine go_static_6 e0_508 (wd 19 rfl) (wd 20 rfl) (wd 21 rfl) (wd 4 rfl) hy_1 pd_7 rfl (c_same0 hw (n := 1) (i := 2) (by decide) (by decide) (by decide)) rfl 0 rfl (by decide) (by decide) (by decide) (by decide) ?_
          rintro _ _ ⟨rfl, rfl⟩
          try simp only [List.replicate_succ, List.replicate_zero, List.set_cons_zero, List.set_cons_succ, List.length_nil, List.length_cons, Nat.zero_add, Nat.reduceAdd, List.nil_append, List.cons_append]
          refine go_ifeqN e0_511 (tg := 552) (by decide) (by decide) ?_
          refine go_aload e0_514 rfl rfl ?_
          refine go_aload e0_516 rfl rfl ?_
          refine go_iload e0_518 rfl ?_
          refine go_iload e0_520 rfl ?_
          refine go_iload e0_522 rfl ?_
          refine go_iconst e0_524 (x := 3) rfl ?_
          refine go_static_6 e0_525 (wd 19 rfl) (wd 20 rfl) (wd 21 rfl) (wd 4 rfl) hy_1 pd_7 rfl (c_same0 hw (n := 1) (i := 3) (by decide) (by decide) (by decide)) rfl 0 rfl (by decide) (by decide) (by decide) (by decide) ?_
          rintro _ _ ⟨rfl, rfl⟩
          try simp only [List.replicate_succ, List.replicate_zero, List.set_cons_zero, List.set_cons_succ, List.length_nil, List.length_cons, Nat.zero_add, Nat.reduceAdd, List.nil_append, List.cons_append]
          refine go_ifeqN e0_528 (tg := 552) (by decide) (by decide) ?_
          refine go_aload e0_531 rfl rfl ?_
          refine go_aload e0_533 rfl rfl ?_
          refine go_iload e0_535 rfl ?_
          refine go_iload e0_537 rfl ?_
          refine go_iload e0_539 rfl ?_
          refine go_iconst e0_541 (x := 4) rfl ?_
          refine go_static_6 e0_542 (wd 19 rfl) (wd 20 rfl) (wd 21 rfl) (wd 4 rfl) hy_1 pd_7 rfl (c_same0 hw (n := 1) (i := 4) (by decide) (by decide) (by decide)) rfl 0 rfl (by decide) (by decide) (by decide) (by decide) ?_
          rintro _ _ ⟨rfl, rfl⟩
          try simp only [List.replicate_succ, List.replicate_zero, List.set_cons_zero, List.set_cons_succ, List.length_nil, List.length_cons, Nat.zero_add, Nat.reduceAdd, List.nil_append, List.cons_append]
          refine go_ifeqN e0_545 (tg := 552) (by decide) (by decide) ?_
          refine go_iconst e0_548 (x := 1) rfl ?_
          refine go_goto e0_549 (tg := 553) (by decide) ?_
          refine go_istore_17 e0_553 rfl ?_
          refine go_iload e0_555 rfl ?_
          refine go_ifeqN e0_557 (tg := 569) (by decide) (by decide) ?_
          refine go_iload e0_560 rfl ?_
          refine go_ifeqN e0_562 (tg := 569) (by decide) (by decide) ?_
          refine go_iconst e0_565 (x := 1) rfl ?_
          refine go_goto e0_566 (tg := 570) (by decide) ?_
          refine go_zreturn e0_570 rfl (by decide) (by decide) (by decide) ?_
          exact rfl
        · intro c271
          refine go_iconst e0_274 (x := 1) rfl ?_
          refine go_goto e0_275 (tg := 279) (by decide) ?_
          refine go_istore_13 e0_279 rfl ?_
          refine go_iload e0_281 rfl ?_
          refine go_newarray e0_283 (wd 1 rfl) (k := 1) rfl (vs := [.int 0]) rfl (cap := 1) (by decide) (by decide) (by decide) (by decide) ?_
          simp only [List.replicate_succ, List.replicate_zero, List.set_cons_zero, List.set_cons_succ, List.length_nil, List.length_cons, Nat.zero_add, Nat.reduceAdd, List.nil_append, List.cons_append]
          refine go_astore_14 e0_285 rfl rfl ?_
          refine go_aload e0_287 rfl rfl ?_
          refine go_aload e0_289 rfl rfl ?_
          refine go_iload e0_291 rfl ?_
          refine go_iload e0_293 rfl ?_
          refine go_iload e0_295 rfl ?_
          refine go_iconst e0_297 (x := 0) rfl ?_
          refine go_staticV_6 e0_298 (wd 9 rfl) (wd 10 rfl) (wd 11 rfl) (wd 4 rfl) hy_1 pd_4 rfl (c_place1 hw (n := 1) (s1 := 0) (i := 0) (K := 0) rfl rfl (by decide) (by decide) (by decide) (by decide) (by decide) (by decide) (by decide) rfl (Nat.le_of_ble_eq_true rfl)) rfl 0 rfl (by decide) (by decide) (by decide) (by decide) ?_
          rintro _ rfl
          try simp only [List.replicate_succ, List.replicate_zero, List.set_cons_zero, List.set_cons_succ, List.length_nil, List.length_cons, Nat.zero_add, Nat.reduceAdd, List.nil_append, List.cons_append]
          refine go_aload e0_301 rfl rfl ?_
          refine go_aload e0_303 rfl rfl ?_
          refine go_iload e0_305 rfl ?_
          refine go_iload e0_307 rfl ?_
          refine go_iload e0_309 rfl ?_
          refine go_iconst e0_311 (x := 1) rfl ?_
          refine go_staticV_6 e0_312 (wd 9 rfl) (wd 10 rfl) (wd 11 rfl) (wd 4 rfl) hy_1 pd_4 rfl (c_place0 hw (n := 1) (i := 1) (by decide) (by decide) (by decide)) rfl 0 rfl (by decide) (by decide) (by decide) (by decide) ?_
          rintro _ rfl
          try simp only [List.replicate_succ, List.replicate_zero, List.set_cons_zero, List.set_cons_succ, List.length_nil, List.length_cons, Nat.zero_add, Nat.reduceAdd, List.nil_append, List.cons_append]
          refine go_aload e0_315 rfl rfl ?_
          refine go_aload e0_317 rfl rfl ?_
          refine go_iload e0_319 rfl ?_
          refine go_iload e0_321 rfl ?_
          refine go_iload e0_323 rfl ?_
          refine go_iconst e0_325 (x := 2) rfl ?_
          refine go_staticV_6 e0_326 (wd 9 rfl) (wd 10 rfl) (wd 11 rfl) (wd 4 rfl) hy_1 pd_4 rfl (c_place0 hw (n := 1) (i := 2) (by decide) (by decide) (by decide)) rfl 0 rfl (by decide) (by decide) (by decide) (by decide) ?_
          rintro _ rfl
          try simp only [List.replicate_succ, List.replicate_zero, List.set_cons_zero, List.set_cons_succ, List.length_nil, List.length_cons, Nat.zero_add, Nat.reduceAdd, List.nil_append, List.cons_append]
          refine go_aload e0_329 rfl rfl ?_
          refine go_aload e0_331 rfl rfl ?_
          refine go_iload e0_333 rfl ?_
          refine go_iload e0_335 rfl ?_
          refine go_iload e0_337 rfl ?_
          refine go_iconst e0_339 (x := 3) rfl ?_
          refine go_staticV_6 e0_340 (wd 9 rfl) (wd 10 rfl) (wd 11 rfl) (wd 4 rfl) hy_1 pd_4 rfl (c_place0 hw (n := 1) (i := 3) (by decide) (by decide) (by decide)) rfl 0 rfl (by decide) (by decide) (by decide) (by decide) ?_
          rintro _ rfl
          try simp only [List.replicate_succ, List.replicate_zero, List.set_cons_zero, List.set_cons_succ, List.length_nil, List.length_cons, Nat.zero_add, Nat.reduceAdd, List.nil_append, List.cons_append]
          refine go_aload e0_343 rfl rfl ?_
          refine go_aload e0_345 rfl rfl ?_
          refine go_iload e0_347 rfl ?_
          refine go_iload e0_349 rfl ?_
          refine go_iload e0_351 rfl ?_
          refine go_iconst e0_353 (x := 4) rfl ?_
          refine go_staticV_6 e0_354 (wd 9 rfl) (wd 10 rfl) (wd 11 rfl) (wd 4 rfl) hy_1 pd_4 rfl (c_place0 hw (n := 1) (i := 4) (by decide) (by decide) (by decide)) rfl 0 rfl (by decide) (by decide) (by decide) (by decide) ?_
          rintro _ rfl
          try simp only [List.replicate_succ, List.replicate_zero, List.set_cons_zero, List.set_cons_succ, List.length_nil, List.length_cons, Nat.zero_add, Nat.reduceAdd, List.nil_append, List.cons_append]
          refine go_aload e0_357 rfl rfl ?_
          refine go_static_1 e0_359 (wd 15 rfl) (wd 16 rfl) (wd 18 rfl) (wd 17 rfl) hy_5 pd_6 rfl (c_norm hw (n := 1) (st := 0) (nn := 1) (va := 0) (vb := 0) rfl rfl (by decide) (by decide) (by intro v hv; simp only [List.mem_cons, List.not_mem_nil, or_false] at hv; rcases hv with rfl <;> exact ⟨_, rfl⟩) (by decide) rfl (fun j hj => absurd hj (Nat.not_lt_zero _)) rfl rfl) rfl 0 rfl (by decide) (by decide) (by decide) (by decide) ?_
          rintro _ _ ⟨rfl, out, rfl, hol, hout⟩
          rw [if_pos (Int.le_refl _)] at hout
          have o0 : out[0]? = some (.int 0) := hout 0 (by decide)
          try simp only [List.replicate_succ, List.replicate_zero, List.set_cons_zero, List.set_cons_succ, List.length_nil, List.length_cons, Nat.zero_add, Nat.reduceAdd, List.nil_append, List.cons_append]
          refine go_astore_15 e0_362 rfl rfl ?_
          refine go_aload e0_364 rfl rfl ?_
          refine go_aload e0_366 rfl rfl ?_
          refine go_acmp e0_368 rfl rfl (same := false) (by decide) (tg := 379) (by decide) ?_
          show Go C 371 _ _ _ _ _
          refine go_aload e0_371 rfl rfl ?_
          refine go_len e0_373 rfl (n := 1) (by rw [hol]; decide) ?_
          refine go_iload e0_374 rfl ?_
          refine go_iceqY e0_376 (tg := 381) (by decide) rfl ?_
          refine go_aload e0_381 rfl rfl ?_
          refine go_aload e0_383 rfl rfl ?_
          refine go_iload e0_385 rfl ?_
          refine go_iconst e0_387 (x := 0) rfl ?_
          refine go_iconst e0_388 (x := 1) rfl ?_
          refine go_iconst e0_389 (x := 0) rfl ?_
          refine go_static_6 e0_390 (wd 19 rfl) (wd 20 rfl) (wd 21 rfl) (wd 4 rfl) hy_1 pd_7 rfl (c_same1 hw (n := 1) (s1 := 0) (i := 0) (K := 0) rfl rfl (by decide) (by decide) (by decide) (by decide) (by decide) (by decide) (by decide) rfl o0) rfl 0 rfl (by decide) (by decide) (by decide) (by decide) ?_
          rintro _ _ ⟨rfl, rfl⟩
          try simp only [List.replicate_succ, List.replicate_zero, List.set_cons_zero, List.set_cons_succ, List.length_nil, List.length_cons, Nat.zero_add, Nat.reduceAdd, List.nil_append, List.cons_append]
          refine go_ifeqN e0_393 (tg := 460) (by decide) (by decide) ?_
          refine go_aload e0_396 rfl rfl ?_
          refine go_aload e0_398 rfl rfl ?_
          refine go_iload e0_400 rfl ?_
          refine go_iconst e0_402 (x := 0) rfl ?_
          refine go_iconst e0_403 (x := 1) rfl ?_
          refine go_iconst e0_404 (x := 1) rfl ?_
          refine go_static_6 e0_405 (wd 19 rfl) (wd 20 rfl) (wd 21 rfl) (wd 4 rfl) hy_1 pd_7 rfl (c_same0 hw (n := 1) (i := 1) (by decide) (by decide) (by decide)) rfl 0 rfl (by decide) (by decide) (by decide) (by decide) ?_
          rintro _ _ ⟨rfl, rfl⟩
          try simp only [List.replicate_succ, List.replicate_zero, List.set_cons_zero, List.set_cons_succ, List.length_nil, List.length_cons, Nat.zero_add, Nat.reduceAdd, List.nil_append, List.cons_append]
          refine go_ifeqN e0_408 (tg := 460) (by decide) (by decide) ?_
          refine go_aload e0_411 rfl rfl ?_
          refine go_aload e0_413 rfl rfl ?_
          refine go_iload e0_415 rfl ?_
          refine go_iconst e0_417 (x := 0) rfl ?_
          refine go_iconst e0_418 (x := 1) rfl ?_
          refine go_iconst e0_419 (x := 2) rfl ?_
          refine go_static_6 e0_420 (wd 19 rfl) (wd 20 rfl) (wd 21 rfl) (wd 4 rfl) hy_1 pd_7 rfl (c_same0 hw (n := 1) (i := 2) (by decide) (by decide) (by decide)) rfl 0 rfl (by decide) (by decide) (by decide) (by decide) ?_
          rintro _ _ ⟨rfl, rfl⟩
          try simp only [List.replicate_succ, List.replicate_zero, List.set_cons_zero, List.set_cons_succ, List.length_nil, List.length_cons, Nat.zero_add, Nat.reduceAdd, List.nil_append, List.cons_append]
          refine go_ifeqN e0_423 (tg := 460) (by decide) (by decide) ?_
          refine go_aload e0_426 rfl rfl ?_
          refine go_aload e0_428 rfl rfl ?_
          refine go_iload e0_430 rfl ?_
          refine go_iconst e0_432 (x := 0) rfl ?_
          refine go_iconst e0_433 (x := 1) rfl ?_
          refine go_iconst e0_434 (x := 3) rfl ?_
          refine go_static_6 e0_435 (wd 19 rfl) (wd 20 rfl) (wd 21 rfl) (wd 4 rfl) hy_1 pd_7 rfl (c_same0 hw (n := 1) (i := 3) (by decide) (by decide) (by decide)) rfl 0 rfl (by decide) (by decide) (by decide) (by decide) ?_
          rintro _ _ ⟨rfl, rfl⟩
          try simp only [List.replicate_succ, List.replicate_zero, List.set_cons_zero, List.set_cons_succ, List.length_nil, List.length_cons, Nat.zero_add, Nat.reduceAdd, List.nil_append, List.cons_append]
          refine go_ifeqN e0_438 (tg := 460) (by decide) (by decide) ?_
          refine go_aload e0_441 rfl rfl ?_
          refine go_aload e0_443 rfl rfl ?_
          refine go_iload e0_445 rfl ?_
          refine go_iconst e0_447 (x := 0) rfl ?_
          refine go_iconst e0_448 (x := 1) rfl ?_
          refine go_iconst e0_449 (x := 4) rfl ?_
          refine go_static_6 e0_450 (wd 19 rfl) (wd 20 rfl) (wd 21 rfl) (wd 4 rfl) hy_1 pd_7 rfl (c_same0 hw (n := 1) (i := 4) (by decide) (by decide) (by decide)) rfl 0 rfl (by decide) (by decide) (by decide) (by decide) ?_
          rintro _ _ ⟨rfl, rfl⟩
          try simp only [List.replicate_succ, List.replicate_zero, List.set_cons_zero, List.set_cons_succ, List.length_nil, List.length_cons, Nat.zero_add, Nat.reduceAdd, List.nil_append, List.cons_append]
          refine go_ifeqN e0_453 (tg := 460) (by decide) (by decide) ?_
          refine go_iconst e0_456 (x := 1) rfl ?_
          refine go_goto e0_457 (tg := 461) (by decide) ?_
          refine go_istore_16 e0_461 rfl ?_
          refine go_aload e0_463 rfl rfl ?_
          refine go_aload e0_465 rfl rfl ?_
          refine go_iload e0_467 rfl ?_
          refine go_iload e0_469 rfl ?_
          refine go_iload e0_471 rfl ?_
          refine go_iconst e0_473 (x := 0) rfl ?_
          refine go_static_6 e0_474 (wd 19 rfl) (wd 20 rfl) (wd 21 rfl) (wd 4 rfl) hy_1 pd_7 rfl (c_same1 hw (n := 1) (s1 := 0) (i := 0) (K := 0) rfl rfl (by decide) (by decide) (by decide) (by decide) (by decide) (by decide) (by decide) rfl rfl) rfl 0 rfl (by decide) (by decide) (by decide) (by decide) ?_
          rintro _ _ ⟨rfl, rfl⟩
          try simp only [List.replicate_succ, List.replicate_zero, List.set_cons_zero, List.set_cons_succ, List.length_nil, List.length_cons, Nat.zero_add, Nat.reduceAdd, List.nil_append, List.cons_append]
          refine go_ifeqN e0_477 (tg := 552) (by decide) (by decide) ?_
          refine go_aload e0_480 rfl rfl ?_
          refine go_aload e0_482 rfl rfl ?_
          refine go_iload e0_484 rfl ?_
          refine go_iload e0_486 rfl ?_
          refine go_iload e0_488 rfl ?_
          refine go_iconst e0_490 (x := 1) rfl ?_
          refine go_static_6 e0_491 (wd 19 rfl) (wd 20 rfl) (wd 21 rfl) (wd 4 rfl) hy_1 pd_7 rfl (c_same0 hw (n := 1) (i := 1) (by decide) (by decide) (by decide)) rfl 0 rfl (by decide) (by decide) (by decide) (by decide) ?_
          rintro _ _ ⟨rfl, rfl⟩
          try simp only [List.replicate_succ, List.replicate_zero, List.set_cons_zero, List.set_cons_succ, List.length_nil, List.length_cons, Nat.zero_add, Nat.reduceAdd, List.nil_append, List.cons_append]
          refine go_ifeqN e0_494 (tg := 552) (by decide) (by decide) ?_
          refine go_aload e0_497 rfl rfl ?_
          refine go_aload e0_499 rfl rfl ?_
          refine go_iload e0_501 rfl ?_
          refine go_iload e0_503 rfl ?_
          refine go_iload e0_505 rfl ?_
          refine go_iconst e0_507 (x := 2) rfl ?_
          refine go_static_6 e0_508 (wd 19 rfl) (wd 20 rfl) (wd 21 rfl) (wd 4 rfl) hy_1 pd_7 rfl (c_same0 hw (n := 1) (i := 2) (by decide) (by decide) (by decide)) rfl 0 rfl (by decide) (by decide) (by decide) (by decide) ?_
          rintro _ _ ⟨rfl, rfl⟩
          try simp only [List.replicate_succ, List.replicate_zero, List.set_cons_zero, List.set_cons_succ, List.length_nil, List.length_cons, Nat.zero_add, Nat.reduceAdd, List.nil_append, List.cons_append]
          refine go_ifeqN e0_511 (tg := 552) (by decide) (by decide) ?_
          refine go_aload e0_514 rfl rfl ?_
          refine go_aload e0_516 rfl rfl ?_
          refine go_iload e0_518 rfl ?_
          refine go_iload e0_520 rfl ?_
          refine go_iload e0_522 rfl ?_
          refine go_iconst e0_524 (x := 3) rfl ?_
          refine go_static_6 e0_525 (wd 19 rfl) (wd 20 rfl) (wd 21 rfl) (wd 4 rfl) hy_1 pd_7 rfl (c_same0 hw (n := 1) (i := 3) (by decide) (by decide) (by decide)) rfl 0 rfl (by decide) (by decide) (by decide) (by decide) ?_
          rintro _ _ ⟨rfl, rfl⟩
          try simp only [List.replicate_succ, List.replicate_zero, List.set_cons_zero, List.set_cons_succ, List.length_nil, List.length_cons, Nat.zero_add, Nat.reduceAdd, List.nil_append, List.cons_append]
          refine go_ifeqN e0_528 (tg := 552) (by decide) (by decide) ?_
          refine go_aload e0_531 rfl rfl ?_
          refine go_aload e0_533 rfl rfl ?_
          refine go_iload e0_535 rfl ?_
          refine go_iload e0_537 rfl ?_
          refine go_iload e0_539 rfl ?_
          refine go_iconst e0_541 (x := 4) rfl ?_
          refine go_static_6 e0_542 (wd 19 rfl) (wd 20 rfl) (wd 21 rfl) (wd 4 rfl) hy_1 pd_7 rfl (c_same0 hw (n := 1) (i := 4) (by decide) (by decide) (by decide)) rfl 0 rfl (by decide) (by decide) (by decide) (by decide) ?_
          rintro _ _ ⟨rfl, rfl⟩
          try simp only [List.replicate_succ, List.replicate_zero, List.set_cons_zero, List.set_cons_succ, List.length_nil, List.length_cons, Nat.zero_add, Nat.reduceAdd, List.nil_append, List.cons_append]
          refine go_ifeqN e0_545 (tg := 552) (by decide) (by decide) ?_
          refine go_iconst e0_548 (x := 1) rfl ?_
          refine go_goto e0_549 (tg := 553) (by decide) ?_
          refine go_istore_17 e0_553 rfl ?_
          refine go_iload e0_555 rfl ?_
          refine go_ifeqN e0_557 (tg := 569) (by decide) (by decide) ?_
          refine go_iload e0_560 rfl ?_
          refine go_ifeqN e0_562 (tg := 569) (by decide) (by decide) ?_
          refine go_iconst e0_565 (x := 1) rfl ?_
          refine go_goto e0_566 (tg := 570) (by decide) ?_
          refine go_zreturn e0_570 rfl (by decide) (by decide) (by decide) ?_
          exact rfl
    have J4 : ∀ (ps : List Value) (k9 : Int32), Go C 173 [.val (.int i0), .val (.int i1), .val (.int i2), .val (.int i3), .val (.int 1), .val (.int 0), .val (.int c6), .val (.ref 0), .val (.ref 1), .val (.int k9), .unset, .unset, .unset, .unset, .unset, .unset, .unset, .unset] [] [ar .int ps, ar .int [.int 0, .int 0, .int 0, .int 0]] 2 8 := by
      intro  ps k9 
      refine go_iload e0_173 rfl ?_
      refine go_iconst e0_175 (x := 2) rfl ?_
      refine go_icltY e0_176 (tg := 197) (by decide) (by decide) ?_
      refine go_iconst e0_197 (x := 0) rfl ?_
      refine go_istore_10 e0_198 rfl ?_
      refine go_iload e0_200 rfl ?_
      refine go_newarray e0_202 (wd 1 rfl) (k := 1) rfl (vs := [.int 0]) rfl (cap := 1) (by decide) (by decide) (by decide) (by decide) ?_
      simp only [List.replicate_succ, List.replicate_zero, List.set_cons_zero, List.set_cons_succ, List.length_nil, List.length_cons, Nat.zero_add, Nat.reduceAdd, List.nil_append, List.cons_append]
      refine go_astore_11 e0_204 rfl rfl ?_
      refine go_aload e0_206 rfl rfl ?_
      refine go_iconst e0_208 (x := 0) rfl ?_
      refine go_iconst e0_209 (x := 0) rfl ?_
      refine go_iastore e0_210 rfl (k := 0) (by decide) (Nat.le_of_ble_eq_true rfl) ?_
      simp only [List.replicate_succ, List.replicate_zero, List.set_cons_zero, List.set_cons_succ, List.length_nil, List.length_cons, Nat.zero_add, Nat.reduceAdd, List.nil_append, List.cons_append]
      refine go_aload e0_211 rfl rfl ?_
      refine go_aload e0_213 rfl rfl ?_
      refine go_iload e0_215 rfl ?_
      refine go_iconst e0_217 (x := 0) rfl ?_
      refine go_iload e0_218 rfl ?_
      refine go_staticV_5 e0_220 (wd 6 rfl) (wd 7 rfl) (wd 8 rfl) (wd 4 rfl) hy_1 pd_8 rfl (c_put0 hw (i := 0) (m0 := 0) (by decide) (by decide) (by decide)) rfl 0 rfl (by decide) (by decide) (by decide) (by decide) ?_
      rintro _ rfl
      try simp only [List.replicate_succ, List.replicate_zero, List.set_cons_zero, List.set_cons_succ, List.length_nil, List.length_cons, Nat.zero_add, Nat.reduceAdd, List.nil_append, List.cons_append]
      refine go_aload e0_223 rfl rfl ?_
      refine go_aload e0_225 rfl rfl ?_
      refine go_iload e0_227 rfl ?_
      refine go_iconst e0_229 (x := 1) rfl ?_
      refine go_iload e0_230 rfl ?_
      refine go_staticV_5 e0_232 (wd 6 rfl) (wd 7 rfl) (wd 8 rfl) (wd 4 rfl) hy_1 pd_8 rfl (c_put0 hw (i := 1) (m0 := 0) (by decide) (by decide) (by decide)) rfl 0 rfl (by decide) (by decide) (by decide) (by decide) ?_
      rintro _ rfl
      try simp only [List.replicate_succ, List.replicate_zero, List.set_cons_zero, List.set_cons_succ, List.length_nil, List.length_cons, Nat.zero_add, Nat.reduceAdd, List.nil_append, List.cons_append]
      refine go_aload e0_235 rfl rfl ?_
      refine go_aload e0_237 rfl rfl ?_
      refine go_iload e0_239 rfl ?_
      refine go_iconst e0_241 (x := 2) rfl ?_
      refine go_iload e0_242 rfl ?_
      refine go_staticV_5 e0_244 (wd 6 rfl) (wd 7 rfl) (wd 8 rfl) (wd 4 rfl) hy_1 pd_8 rfl (c_put0 hw (i := 2) (m0 := 0) (by decide) (by decide) (by decide)) rfl 0 rfl (by decide) (by decide) (by decide) (by decide) ?_
      rintro _ rfl
      try simp only [List.replicate_succ, List.replicate_zero, List.set_cons_zero, List.set_cons_succ, List.length_nil, List.length_cons, Nat.zero_add, Nat.reduceAdd, List.nil_append, List.cons_append]
      refine go_aload e0_247 rfl rfl ?_
      refine go_aload e0_249 rfl rfl ?_
      refine go_iload e0_251 rfl ?_
      refine go_iconst e0_253 (x := 3) rfl ?_
      refine go_iload e0_254 rfl ?_
      refine go_staticV_5 e0_256 (wd 6 rfl) (wd 7 rfl) (wd 8 rfl) (wd 4 rfl) hy_1 pd_8 rfl (c_put0 hw (i := 3) (m0 := 0) (by decide) (by decide) (by decide)) rfl 0 rfl (by decide) (by decide) (by decide) (by decide) ?_
      rintro _ rfl
      try simp only [List.replicate_succ, List.replicate_zero, List.set_cons_zero, List.set_cons_succ, List.length_nil, List.length_cons, Nat.zero_add, Nat.reduceAdd, List.nil_append, List.cons_append]
      exact J5  _ _ _ _  
    have J3 : ∀ (p0 p1 p2 p3 : Int32), D4 p0 p1 p2 p3 → Go C 89 [.val (.int i0), .val (.int i1), .val (.int i2), .val (.int i3), .val (.int 1), .val (.int 0), .val (.int c6), .val (.ref 0), .val (.ref 1), .val (.int 0), .unset, .unset, .unset, .unset, .unset, .unset, .unset, .unset] [] [ar .int [.int p0, .int p1, .int p2, .int p3], ar .int [.int 0, .int 0, .int 0, .int 0]] 2 8 := by
      intro p0 p1 p2 p3 hD
      unfold D4 at hD
      have km : (0 : Int32).toInt = 0 := rfl
      refine go_aload e0_89 rfl rfl ?_
      refine go_iconst e0_91 (x := 0) rfl ?_
      refine go_iaload e0_92 rfl (k := 0) (by decide) rfl ?_
      refine go_iload e0_93 rfl ?_
      refine go_icgt e0_95 (tg := 110) (by decide) ?_ ?_
      · intro c95
        refine go_aload e0_110 rfl rfl ?_
        refine go_iconst e0_112 (x := 1) rfl ?_
        refine go_iaload e0_113 rfl (k := 1) (by decide) rfl ?_
        refine go_iload e0_114 rfl ?_
        refine go_icgt e0_116 (tg := 131) (by decide) ?_ ?_
        · intro c116
          refine go_aload e0_131 rfl rfl ?_
          refine go_iconst e0_133 (x := 2) rfl ?_
          refine go_iaload e0_134 rfl (k := 2) (by decide) rfl ?_
          refine go_iload e0_135 rfl ?_
          refine go_icgt e0_137 (tg := 152) (by decide) ?_ ?_
          · intro c137
            refine go_aload e0_152 rfl rfl ?_
            refine go_iconst e0_154 (x := 3) rfl ?_
            refine go_iaload e0_155 rfl (k := 3) (by decide) rfl ?_
            refine go_iload e0_156 rfl ?_
            refine go_icgt e0_158 (tg := 173) (by decide) ?_ ?_
            · intro c158
              exact J4  _ _  
            · intro c158
              refine go_aload e0_161 rfl rfl ?_
              refine go_iload e0_163 rfl ?_
              refine go_aload e0_165 rfl rfl ?_
              refine go_iconst e0_167 (x := 3) rfl ?_
              refine go_iaload e0_168 rfl (k := 3) (by decide) rfl ?_
              refine go_iastore e0_169 rfl (k := 0) (by decide) (Nat.le_of_ble_eq_true rfl) ?_
              simp only [List.replicate_succ, List.replicate_zero, List.set_cons_zero, List.set_cons_succ, List.length_nil, List.length_cons, Nat.zero_add, Nat.reduceAdd, List.nil_append, List.cons_append]
              refine go_iinc_9 e0_170 (z := 1) rfl ?_
              exfalso; omega
          · intro c137
            refine go_aload e0_140 rfl rfl ?_
            refine go_iload e0_142 rfl ?_
            refine go_aload e0_144 rfl rfl ?_
            refine go_iconst e0_146 (x := 2) rfl ?_
            refine go_iaload e0_147 rfl (k := 2) (by decide) rfl ?_
            refine go_iastore e0_148 rfl (k := 0) (by decide) (Nat.le_of_ble_eq_true rfl) ?_
            simp only [List.replicate_succ, List.replicate_zero, List.set_cons_zero, List.set_cons_succ, List.length_nil, List.length_cons, Nat.zero_add, Nat.reduceAdd, List.nil_append, List.cons_append]
            refine go_iinc_9 e0_149 (z := 1) rfl ?_
            refine go_aload e0_152 rfl rfl ?_
            refine go_iconst e0_154 (x := 3) rfl ?_
            refine go_iaload e0_155 rfl (k := 3) (by decide) rfl ?_
            refine go_iload e0_156 rfl ?_
            refine go_icgt e0_158 (tg := 173) (by decide) ?_ ?_
            · intro c158
              exfalso; omega
            · intro c158
              refine go_aload e0_161 rfl rfl ?_
              refine go_iload e0_163 rfl ?_
              refine go_aload e0_165 rfl rfl ?_
              refine go_iconst e0_167 (x := 3) rfl ?_
              refine go_iaload e0_168 rfl (k := 3) (by decide) rfl ?_
              refine go_iastore e0_169 rfl (k := 1) (by decide) (Nat.le_of_ble_eq_true rfl) ?_
              simp only [List.replicate_succ, List.replicate_zero, List.set_cons_zero, List.set_cons_succ, List.length_nil, List.length_cons, Nat.zero_add, Nat.reduceAdd, List.nil_append, List.cons_append]
              refine go_iinc_9 e0_170 (z := 1) rfl ?_
              exfalso; omega
        · intro c116
          refine go_aload e0_119 rfl rfl ?_
          refine go_iload e0_121 rfl ?_
          refine go_aload e0_123 rfl rfl ?_
          refine go_iconst e0_125 (x := 1) rfl ?_
          refine go_iaload e0_126 rfl (k := 1) (by decide) rfl ?_
          refine go_iastore e0_127 rfl (k := 0) (by decide) (Nat.le_of_ble_eq_true rfl) ?_
          simp only [List.replicate_succ, List.replicate_zero, List.set_cons_zero, List.set_cons_succ, List.length_nil, List.length_cons, Nat.zero_add, Nat.reduceAdd, List.nil_append, List.cons_append]
          refine go_iinc_9 e0_128 (z := 1) rfl ?_
          refine go_aload e0_131 rfl rfl ?_
          refine go_iconst e0_133 (x := 2) rfl ?_
          refine go_iaload e0_134 rfl (k := 2) (by decide) rfl ?_
          refine go_iload e0_135 rfl ?_
          refine go_icgt e0_137 (tg := 152) (by decide) ?_ ?_
          · intro c137
            refine go_aload e0_152 rfl rfl ?_
            refine go_iconst e0_154 (x := 3) rfl ?_
            refine go_iaload e0_155 rfl (k := 3) (by decide) rfl ?_
            refine go_iload e0_156 rfl ?_
            refine go_icgt e0_158 (tg := 173) (by decide) ?_ ?_
            · intro c158
              exfalso; omega
            · intro c158
              refine go_aload e0_161 rfl rfl ?_
              refine go_iload e0_163 rfl ?_
              refine go_aload e0_165 rfl rfl ?_
              refine go_iconst e0_167 (x := 3) rfl ?_
              refine go_iaload e0_168 rfl (k := 3) (by decide) rfl ?_
              refine go_iastore e0_169 rfl (k := 1) (by decide) (Nat.le_of_ble_eq_true rfl) ?_
              simp only [List.replicate_succ, List.replicate_zero, List.set_cons_zero, List.set_cons_succ, List.length_nil, List.length_cons, Nat.zero_add, Nat.reduceAdd, List.nil_append, List.cons_append]
              refine go_iinc_9 e0_170 (z := 1) rfl ?_
              exfalso; omega
          · intro c137
            refine go_aload e0_140 rfl rfl ?_
            refine go_iload e0_142 rfl ?_
            refine go_aload e0_144 rfl rfl ?_
            refine go_iconst e0_146 (x := 2) rfl ?_
            refine go_iaload e0_147 rfl (k := 2) (by decide) rfl ?_
            refine go_iastore e0_148 rfl (k := 1) (by decide) (Nat.le_of_ble_eq_true rfl) ?_
            simp only [List.replicate_succ, List.replicate_zero, List.set_cons_zero, List.set_cons_succ, List.length_nil, List.length_cons, Nat.zero_add, Nat.reduceAdd, List.nil_append, List.cons_append]
            refine go_iinc_9 e0_149 (z := 1) rfl ?_
            refine go_aload e0_152 rfl rfl ?_
            refine go_iconst e0_154 (x := 3) rfl ?_
            refine go_iaload e0_155 rfl (k := 3) (by decide) rfl ?_
            refine go_iload e0_156 rfl ?_
            refine go_icgt e0_158 (tg := 173) (by decide) ?_ ?_
            · intro c158
              exfalso; omega
            · intro c158
              refine go_aload e0_161 rfl rfl ?_
              refine go_iload e0_163 rfl ?_
              refine go_aload e0_165 rfl rfl ?_
              refine go_iconst e0_167 (x := 3) rfl ?_
              refine go_iaload e0_168 rfl (k := 3) (by decide) rfl ?_
              refine go_iastore e0_169 rfl (k := 2) (by decide) (Nat.le_of_ble_eq_true rfl) ?_
              simp only [List.replicate_succ, List.replicate_zero, List.set_cons_zero, List.set_cons_succ, List.length_nil, List.length_cons, Nat.zero_add, Nat.reduceAdd, List.nil_append, List.cons_append]
              refine go_iinc_9 e0_170 (z := 1) rfl ?_
              exfalso; omega
      · intro c95
        refine go_aload e0_98 rfl rfl ?_
        refine go_iload e0_100 rfl ?_
        refine go_aload e0_102 rfl rfl ?_
        refine go_iconst e0_104 (x := 0) rfl ?_
        refine go_iaload e0_105 rfl (k := 0) (by decide) rfl ?_
        refine go_iastore e0_106 rfl (k := 0) (by decide) (Nat.le_of_ble_eq_true rfl) ?_
        simp only [List.replicate_succ, List.replicate_zero, List.set_cons_zero, List.set_cons_succ, List.length_nil, List.length_cons, Nat.zero_add, Nat.reduceAdd, List.nil_append, List.cons_append]
        refine go_iinc_9 e0_107 (z := 1) rfl ?_
        refine go_aload e0_110 rfl rfl ?_
        refine go_iconst e0_112 (x := 1) rfl ?_
        refine go_iaload e0_113 rfl (k := 1) (by decide) rfl ?_
        refine go_iload e0_114 rfl ?_
        refine go_icgt e0_116 (tg := 131) (by decide) ?_ ?_
        · intro c116
          refine go_aload e0_131 rfl rfl ?_
          refine go_iconst e0_133 (x := 2) rfl ?_
          refine go_iaload e0_134 rfl (k := 2) (by decide) rfl ?_
          refine go_iload e0_135 rfl ?_
          refine go_icgt e0_137 (tg := 152) (by decide) ?_ ?_
          · intro c137
            refine go_aload e0_152 rfl rfl ?_
            refine go_iconst e0_154 (x := 3) rfl ?_
            refine go_iaload e0_155 rfl (k := 3) (by decide) rfl ?_
            refine go_iload e0_156 rfl ?_
            refine go_icgt e0_158 (tg := 173) (by decide) ?_ ?_
            · intro c158
              exfalso; omega
            · intro c158
              refine go_aload e0_161 rfl rfl ?_
              refine go_iload e0_163 rfl ?_
              refine go_aload e0_165 rfl rfl ?_
              refine go_iconst e0_167 (x := 3) rfl ?_
              refine go_iaload e0_168 rfl (k := 3) (by decide) rfl ?_
              refine go_iastore e0_169 rfl (k := 1) (by decide) (Nat.le_of_ble_eq_true rfl) ?_
              simp only [List.replicate_succ, List.replicate_zero, List.set_cons_zero, List.set_cons_succ, List.length_nil, List.length_cons, Nat.zero_add, Nat.reduceAdd, List.nil_append, List.cons_append]
              refine go_iinc_9 e0_170 (z := 1) rfl ?_
              exfalso; omega
          · intro c137
            refine go_aload e0_140 rfl rfl ?_
            refine go_iload e0_142 rfl ?_
            refine go_aload e0_144 rfl rfl ?_
            refine go_iconst e0_146 (x := 2) rfl ?_
            refine go_iaload e0_147 rfl (k := 2) (by decide) rfl ?_
            refine go_iastore e0_148 rfl (k := 1) (by decide) (Nat.le_of_ble_eq_true rfl) ?_
            simp only [List.replicate_succ, List.replicate_zero, List.set_cons_zero, List.set_cons_succ, List.length_nil, List.length_cons, Nat.zero_add, Nat.reduceAdd, List.nil_append, List.cons_append]
            refine go_iinc_9 e0_149 (z := 1) rfl ?_
            refine go_aload e0_152 rfl rfl ?_
            refine go_iconst e0_154 (x := 3) rfl ?_
            refine go_iaload e0_155 rfl (k := 3) (by decide) rfl ?_
            refine go_iload e0_156 rfl ?_
            refine go_icgt e0_158 (tg := 173) (by decide) ?_ ?_
            · intro c158
              exfalso; omega
            · intro c158
              refine go_aload e0_161 rfl rfl ?_
              refine go_iload e0_163 rfl ?_
              refine go_aload e0_165 rfl rfl ?_
              refine go_iconst e0_167 (x := 3) rfl ?_
              refine go_iaload e0_168 rfl (k := 3) (by decide) rfl ?_
              refine go_iastore e0_169 rfl (k := 2) (by decide) (Nat.le_of_ble_eq_true rfl) ?_
              simp only [List.replicate_succ, List.replicate_zero, List.set_cons_zero, List.set_cons_succ, List.length_nil, List.length_cons, Nat.zero_add, Nat.reduceAdd, List.nil_append, List.cons_append]
              refine go_iinc_9 e0_170 (z := 1) rfl ?_
              exfalso; omega
        · intro c116
          refine go_aload e0_119 rfl rfl ?_
          refine go_iload e0_121 rfl ?_
          refine go_aload e0_123 rfl rfl ?_
          refine go_iconst e0_125 (x := 1) rfl ?_
          refine go_iaload e0_126 rfl (k := 1) (by decide) rfl ?_
          refine go_iastore e0_127 rfl (k := 1) (by decide) (Nat.le_of_ble_eq_true rfl) ?_
          simp only [List.replicate_succ, List.replicate_zero, List.set_cons_zero, List.set_cons_succ, List.length_nil, List.length_cons, Nat.zero_add, Nat.reduceAdd, List.nil_append, List.cons_append]
          refine go_iinc_9 e0_128 (z := 1) rfl ?_
          refine go_aload e0_131 rfl rfl ?_
          refine go_iconst e0_133 (x := 2) rfl ?_
          refine go_iaload e0_134 rfl (k := 2) (by decide) rfl ?_
          refine go_iload e0_135 rfl ?_
          refine go_icgt e0_137 (tg := 152) (by decide) ?_ ?_
          · intro c137
            refine go_aload e0_152 rfl rfl ?_
            refine go_iconst e0_154 (x := 3) rfl ?_
            refine go_iaload e0_155 rfl (k := 3) (by decide) rfl ?_
            refine go_iload e0_156 rfl ?_
            refine go_icgt e0_158 (tg := 173) (by decide) ?_ ?_
            · intro c158
              exfalso; omega
            · intro c158
              refine go_aload e0_161 rfl rfl ?_
              refine go_iload e0_163 rfl ?_
              refine go_aload e0_165 rfl rfl ?_
              refine go_iconst e0_167 (x := 3) rfl ?_
              refine go_iaload e0_168 rfl (k := 3) (by decide) rfl ?_
              refine go_iastore e0_169 rfl (k := 2) (by decide) (Nat.le_of_ble_eq_true rfl) ?_
              simp only [List.replicate_succ, List.replicate_zero, List.set_cons_zero, List.set_cons_succ, List.length_nil, List.length_cons, Nat.zero_add, Nat.reduceAdd, List.nil_append, List.cons_append]
              refine go_iinc_9 e0_170 (z := 1) rfl ?_
              exfalso; omega
          · intro c137
            refine go_aload e0_140 rfl rfl ?_
            refine go_iload e0_142 rfl ?_
            refine go_aload e0_144 rfl rfl ?_
            refine go_iconst e0_146 (x := 2) rfl ?_
            refine go_iaload e0_147 rfl (k := 2) (by decide) rfl ?_
            refine go_iastore e0_148 rfl (k := 2) (by decide) (Nat.le_of_ble_eq_true rfl) ?_
            simp only [List.replicate_succ, List.replicate_zero, List.set_cons_zero, List.set_cons_succ, List.length_nil, List.length_cons, Nat.zero_add, Nat.reduceAdd, List.nil_append, List.cons_append]
            refine go_iinc_9 e0_149 (z := 1) rfl ?_
            refine go_aload e0_152 rfl rfl ?_
            refine go_iconst e0_154 (x := 3) rfl ?_
            refine go_iaload e0_155 rfl (k := 3) (by decide) rfl ?_
            refine go_iload e0_156 rfl ?_
            refine go_icgt e0_158 (tg := 173) (by decide) ?_ ?_
            · intro c158
              exfalso; omega
            · intro c158
              refine go_aload e0_161 rfl rfl ?_
              refine go_iload e0_163 rfl ?_
              refine go_aload e0_165 rfl rfl ?_
              refine go_iconst e0_167 (x := 3) rfl ?_
              refine go_iaload e0_168 rfl (k := 3) (by decide) rfl ?_
              refine go_iastore e0_169 rfl (k := 3) (by decide) (Nat.le_of_ble_eq_true rfl) ?_
              simp only [List.replicate_succ, List.replicate_zero, List.set_cons_zero, List.set_cons_succ, List.length_nil, List.length_cons, Nat.zero_add, Nat.reduceAdd, List.nil_append, List.cons_append]
              refine go_iinc_9 e0_170 (z := 1) rfl ?_
              exfalso; omega
    have J81 : ∀ (p0 p1 p2 p3 : Int32), D4 p0 p1 p2 p3 → Go C 81 [.val (.int i0), .val (.int i1), .val (.int i2), .val (.int i3), .val (.int 1), .val (.int 0), .val (.int c6), .val (.ref 0), .unset, .unset, .unset, .unset, .unset, .unset, .unset, .unset, .unset, .unset] [] [ar .int [.int p0, .int p1, .int p2, .int p3]] 1 4 := by
      intro p0 p1 p2 p3 hD
      refine go_iconst e0_81 (x := 4) rfl ?_
      refine go_newarray e0_82 (wd 1 rfl) (k := 4) rfl (vs := [.int 0, .int 0, .int 0, .int 0]) rfl (cap := 4) (by decide) (by decide) (by decide) (by decide) ?_
      simp only [List.replicate_succ, List.replicate_zero, List.set_cons_zero, List.set_cons_succ, List.length_nil, List.length_cons, Nat.zero_add, Nat.reduceAdd, List.nil_append, List.cons_append]
      refine go_astore_8 e0_84 rfl rfl ?_
      refine go_iconst e0_86 (x := 0) rfl ?_
      refine go_istore_9 e0_87 rfl ?_
      exact J3 _ _ _ _ hD
    have J2 : ∀ (p0 p1 p2 p3 : Int32), D4 p0 p1 p2 p3 → Go C 68 [.val (.int i0), .val (.int i1), .val (.int i2), .val (.int i3), .val (.int 1), .val (.int 0), .val (.int c6), .val (.ref 0), .unset, .unset, .unset, .unset, .unset, .unset, .unset, .unset, .unset, .unset] [] [ar .int [.int p0, .int p1, .int p2, .int p3]] 1 4 := by
      intro p0 p1 p2 p3 hD
      refine go_aload e0_68 rfl rfl ?_
      refine go_iconst e0_70 (x := 1) rfl ?_
      refine go_iload e0_71 rfl ?_
      refine go_bipush e0_73 (x := 12) rfl ?_
      refine go_idiv e0_75 (by decide) ?_
      refine go_iconst e0_76 (x := 2) rfl ?_
      refine go_irem e0_77 (by decide) ?_
      have he : (c6 / 12 % 2).toInt = 0 ∨ (c6 / 12 % 2).toInt = 1 := by
        have h0 := (c_idiv c6 12 12 (by decide) (by decide)).1 hc0
        have h1 := (c_irem (c6 / 12) 2 2 (by decide)).1 (by omega)
        omega
      rcases he with e | e
      · refine go_staticV_3 e0_78 (wd 2 rfl) (wd 3 rfl) (wd 5 rfl) (wd 4 rfl) hy_1 pd_9 rfl (c_swap hw (i := 1) (j := 0) rfl (by decide) e rfl rfl) rfl 0 rfl (by decide) (by decide) (by decide) (by decide) ?_
        rintro _ rfl
        try simp only [List.replicate_succ, List.replicate_zero, List.set_cons_zero, List.set_cons_succ, List.length_nil, List.length_cons, Nat.zero_add, Nat.reduceAdd, List.nil_append, List.cons_append]
        exact J81 p1 p0 p2 p3 (by unfold D4 at hD ⊢; omega)
      · refine go_staticV_3 e0_78 (wd 2 rfl) (wd 3 rfl) (wd 5 rfl) (wd 4 rfl) hy_1 pd_9 rfl (c_swap hw (i := 1) (j := 1) rfl (by decide) e rfl rfl) rfl 0 rfl (by decide) (by decide) (by decide) (by decide) ?_
        rintro _ rfl
        try simp only [List.replicate_succ, List.replicate_zero, List.set_cons_zero, List.set_cons_succ, List.length_nil, List.length_cons, Nat.zero_add, Nat.reduceAdd, List.nil_append, List.cons_append]
        exact J81 p0 p1 p2 p3 (by unfold D4 at hD ⊢; omega)
    have J1 : ∀ (p0 p1 p2 p3 : Int32), D4 p0 p1 p2 p3 → Go C 56 [.val (.int i0), .val (.int i1), .val (.int i2), .val (.int i3), .val (.int 1), .val (.int 0), .val (.int c6), .val (.ref 0), .unset, .unset, .unset, .unset, .unset, .unset, .unset, .unset, .unset, .unset] [] [ar .int [.int p0, .int p1, .int p2, .int p3]] 1 4 := by
      intro p0 p1 p2 p3 hD
      refine go_aload e0_56 rfl rfl ?_
      refine go_iconst e0_58 (x := 2) rfl ?_
      refine go_iload e0_59 rfl ?_
      refine go_iconst e0_61 (x := 4) rfl ?_
      refine go_idiv e0_62 (by decide) ?_
      refine go_iconst e0_63 (x := 3) rfl ?_
      refine go_irem e0_64 (by decide) ?_
      have he : (c6 / 4 % 3).toInt = 0 ∨ (c6 / 4 % 3).toInt = 1 ∨ (c6 / 4 % 3).toInt = 2 := by
        have h0 := (c_idiv c6 4 4 (by decide) (by decide)).1 hc0
        have h1 := (c_irem (c6 / 4) 3 3 (by decide)).1 (by omega)
        omega
      rcases he with e | e | e
      · refine go_staticV_3 e0_65 (wd 2 rfl) (wd 3 rfl) (wd 5 rfl) (wd 4 rfl) hy_1 pd_9 rfl (c_swap hw (i := 2) (j := 0) rfl (by decide) e rfl rfl) rfl 0 rfl (by decide) (by decide) (by decide) (by decide) ?_
        rintro _ rfl
        try simp only [List.replicate_succ, List.replicate_zero, List.set_cons_zero, List.set_cons_succ, List.length_nil, List.length_cons, Nat.zero_add, Nat.reduceAdd, List.nil_append, List.cons_append]
        exact J2 p2 p1 p0 p3 (by unfold D4 at hD ⊢; omega)
      · refine go_staticV_3 e0_65 (wd 2 rfl) (wd 3 rfl) (wd 5 rfl) (wd 4 rfl) hy_1 pd_9 rfl (c_swap hw (i := 2) (j := 1) rfl (by decide) e rfl rfl) rfl 0 rfl (by decide) (by decide) (by decide) (by decide) ?_
        rintro _ rfl
        try simp only [List.replicate_succ, List.replicate_zero, List.set_cons_zero, List.set_cons_succ, List.length_nil, List.length_cons, Nat.zero_add, Nat.reduceAdd, List.nil_append, List.cons_append]
        exact J2 p0 p2 p1 p3 (by unfold D4 at hD ⊢; omega)
      · refine go_staticV_3 e0_65 (wd 2 rfl) (wd 3 rfl) (wd 5 rfl) (wd 4 rfl) hy_1 pd_9 rfl (c_swap hw (i := 2) (j := 2) rfl (by decide) e rfl rfl) rfl 0 rfl (by decide) (by decide) (by decide) (by decide) ?_
        rintro _ rfl
        try simp only [List.replicate_succ, List.replicate_zero, List.set_cons_zero, List.set_cons_succ, List.length_nil, List.length_cons, Nat.zero_add, Nat.reduceAdd, List.nil_append, List.cons_append]
        exact J2 p0 p1 p2 p3 (by unfold D4 at hD ⊢; omega)
    refine go_iconst e0_25 (x := 4) rfl ?_
    refine go_newarray e0_26 (wd 1 rfl) (k := 4) rfl (vs := [.int 0, .int 0, .int 0, .int 0]) rfl (cap := 4) (by decide) (by decide) (by decide) (by decide) ?_
    simp only [List.replicate_succ, List.replicate_zero, List.set_cons_zero, List.set_cons_succ, List.length_nil, List.length_cons, Nat.zero_add, Nat.reduceAdd, List.nil_append, List.cons_append]
    refine go_dup e0_28 rfl ?_
    refine go_iconst e0_29 (x := 0) rfl ?_
    refine go_iconst e0_30 (x := 1) rfl ?_
    refine go_iastore e0_31 rfl (k := 0) (by decide) (Nat.le_of_ble_eq_true rfl) ?_
    simp only [List.replicate_succ, List.replicate_zero, List.set_cons_zero, List.set_cons_succ, List.length_nil, List.length_cons, Nat.zero_add, Nat.reduceAdd, List.nil_append, List.cons_append]
    refine go_dup e0_32 rfl ?_
    refine go_iconst e0_33 (x := 1) rfl ?_
    refine go_iconst e0_34 (x := 2) rfl ?_
    refine go_iastore e0_35 rfl (k := 1) (by decide) (Nat.le_of_ble_eq_true rfl) ?_
    simp only [List.replicate_succ, List.replicate_zero, List.set_cons_zero, List.set_cons_succ, List.length_nil, List.length_cons, Nat.zero_add, Nat.reduceAdd, List.nil_append, List.cons_append]
    refine go_dup e0_36 rfl ?_
    refine go_iconst e0_37 (x := 2) rfl ?_
    refine go_iconst e0_38 (x := 3) rfl ?_
    refine go_iastore e0_39 rfl (k := 2) (by decide) (Nat.le_of_ble_eq_true rfl) ?_
    simp only [List.replicate_succ, List.replicate_zero, List.set_cons_zero, List.set_cons_succ, List.length_nil, List.length_cons, Nat.zero_add, Nat.reduceAdd, List.nil_append, List.cons_append]
    refine go_dup e0_40 rfl ?_
    refine go_iconst e0_41 (x := 3) rfl ?_
    refine go_iconst e0_42 (x := 4) rfl ?_
    refine go_iastore e0_43 rfl (k := 3) (by decide) (Nat.le_of_ble_eq_true rfl) ?_
    simp only [List.replicate_succ, List.replicate_zero, List.set_cons_zero, List.set_cons_succ, List.length_nil, List.length_cons, Nat.zero_add, Nat.reduceAdd, List.nil_append, List.cons_append]
    refine go_astore_7 e0_44 rfl rfl ?_
    refine go_aload e0_46 rfl rfl ?_
    refine go_iconst e0_48 (x := 3) rfl ?_
    refine go_iload e0_49 rfl ?_
    refine go_iconst e0_51 (x := 4) rfl ?_
    refine go_irem e0_52 (by decide) ?_
    have he : (c6 % 4).toInt = 0 ∨ (c6 % 4).toInt = 1 ∨ (c6 % 4).toInt = 2 ∨ (c6 % 4).toInt = 3 := by
      have h1 := (c_irem c6 4 4 (by decide)).1 hc0
      omega
    rcases he with e | e | e | e
    · refine go_staticV_3 e0_53 (wd 2 rfl) (wd 3 rfl) (wd 5 rfl) (wd 4 rfl) hy_1 pd_9 rfl (c_swap hw (i := 3) (j := 0) rfl (by decide) e rfl rfl) rfl 0 rfl (by decide) (by decide) (by decide) (by decide) ?_
      rintro _ rfl
      try simp only [List.replicate_succ, List.replicate_zero, List.set_cons_zero, List.set_cons_succ, List.length_nil, List.length_cons, Nat.zero_add, Nat.reduceAdd, List.nil_append, List.cons_append]
      exact J1 4 2 3 1 (by decide)
    · refine go_staticV_3 e0_53 (wd 2 rfl) (wd 3 rfl) (wd 5 rfl) (wd 4 rfl) hy_1 pd_9 rfl (c_swap hw (i := 3) (j := 1) rfl (by decide) e rfl rfl) rfl 0 rfl (by decide) (by decide) (by decide) (by decide) ?_
      rintro _ rfl
      try simp only [List.replicate_succ, List.replicate_zero, List.set_cons_zero, List.set_cons_succ, List.length_nil, List.length_cons, Nat.zero_add, Nat.reduceAdd, List.nil_append, List.cons_append]
      exact J1 1 4 3 2 (by decide)
    · refine go_staticV_3 e0_53 (wd 2 rfl) (wd 3 rfl) (wd 5 rfl) (wd 4 rfl) hy_1 pd_9 rfl (c_swap hw (i := 3) (j := 2) rfl (by decide) e rfl rfl) rfl 0 rfl (by decide) (by decide) (by decide) (by decide) ?_
      rintro _ rfl
      try simp only [List.replicate_succ, List.replicate_zero, List.set_cons_zero, List.set_cons_succ, List.length_nil, List.length_cons, Nat.zero_add, Nat.reduceAdd, List.nil_append, List.cons_append]
      exact J1 1 2 4 3 (by decide)
    · refine go_staticV_3 e0_53 (wd 2 rfl) (wd 3 rfl) (wd 5 rfl) (wd 4 rfl) hy_1 pd_9 rfl (c_swap hw (i := 3) (j := 3) rfl (by decide) e rfl rfl) rfl 0 rfl (by decide) (by decide) (by decide) (by decide) ?_
      rintro _ rfl
      try simp only [List.replicate_succ, List.replicate_zero, List.set_cons_zero, List.set_cons_succ, List.length_nil, List.length_cons, Nat.zero_add, Nat.reduceAdd, List.nil_append, List.cons_append]
      exact J1 1 2 3 4 (by decide)
  · obtain rfl : mm = 1 := hmm.trans (by decide)
    have J5 : ∀ (w1 : Int32) (ps rs : List Value) (k9 v10 : Int32) (n1 : ¬ w1 = 0), Go C 259 [.val (.int i0), .val (.int i1), .val (.int i2), .val (.int i3), .val (.int 2), .val (.int 1), .val (.int c6), .val (.ref 0), .val (.ref 1), .val (.int k9), .val (.int v10), .val (.ref 2), .unset, .unset, .unset, .unset, .unset, .unset] [] [ar .int ps, ar .int rs, ar .int [.int 0, .int w1]] 3 10 := by
      intro w1 ps rs k9 v10 n1
      refine go_iloadN e0_259 rfl ?_
      refine go_ldc e0_260 (wd 0 rfl) ?_
      refine go_iand e0_262 ?_
      refine go_iload e0_263 rfl ?_
      refine go_irem e0_265 (by decide) ?_
      refine go_istoreX_12 e0_266 rfl ?_
      intro sx hsx
      have hcs : sx = 0 ∨ sx = 1 := by
        have e2 := (c_irem (i2 &&& 2147483647) 2 2 (by decide)).1 (c_and _ _ (by decide)).1
        have e3 : sx.toInt = 0 ∨ sx.toInt = 1 := by rw [hsx]; omega
        rcases e3 with e | e
        · exact Or.inl (Int32.toInt_inj.mp e)
        · exact Or.inr (Int32.toInt_inj.mp e)
      clear hsx
      rcases hcs with rfl | rfl
      · refine go_iloadN e0_268 rfl ?_
        refine go_iconst e0_269 (x := 1) rfl ?_
        refine go_iand e0_270 ?_
        refine go_ifeq e0_271 (tg := 278) (by decide) ?_ ?_
        · intro c271
          refine go_iconst e0_278 (x := 0) rfl ?_
          refine go_istore_13 e0_279 rfl ?_
          refine go_iload e0_281 rfl ?_
          refine go_newarray e0_283 (wd 1 rfl) (k := 2) rfl (vs := [.int 0, .int 0]) rfl (cap := 2) (by decide) (by decide) (by decide) (by decide) ?_
          simp only [List.replicate_succ, List.replicate_zero, List.set_cons_zero, List.set_cons_succ, List.length_nil, List.length_cons, Nat.zero_add, Nat.reduceAdd, List.nil_append, List.cons_append]
          refine go_astore_14 e0_285 rfl rfl ?_
          refine go_aload e0_287 rfl rfl ?_
          refine go_aload e0_289 rfl rfl ?_
          refine go_iload e0_291 rfl ?_
          refine go_iload e0_293 rfl ?_
          refine go_iload e0_295 rfl ?_
          refine go_iconst e0_297 (x := 0) rfl ?_
          refine go_staticV_6 e0_298 (wd 9 rfl) (wd 10 rfl) (wd 11 rfl) (wd 4 rfl) hy_1 pd_4 rfl (c_place1 hw (n := 2) (s1 := 0) (i := 0) (K := 0) rfl rfl (by decide) (by decide) (by decide) (by decide) (by decide) (by decide) (by decide) rfl (Nat.le_of_ble_eq_true rfl)) rfl 0 rfl (by decide) (by decide) (by decide) (by decide) ?_
          rintro _ rfl
          try simp only [List.replicate_succ, List.replicate_zero, List.set_cons_zero, List.set_cons_succ, List.length_nil, List.length_cons, Nat.zero_add, Nat.reduceAdd, List.nil_append, List.cons_append]
          refine go_aload e0_301 rfl rfl ?_
          refine go_aload e0_303 rfl rfl ?_
          refine go_iload e0_305 rfl ?_
          refine go_iload e0_307 rfl ?_
          refine go_iload e0_309 rfl ?_
          refine go_iconst e0_311 (x := 1) rfl ?_
          refine go_staticV_6 e0_312 (wd 9 rfl) (wd 10 rfl) (wd 11 rfl) (wd 4 rfl) hy_1 pd_4 rfl (c_place1 hw (n := 2) (s1 := 0) (i := 1) (K := 1) rfl rfl (by decide) (by decide) (by decide) (by decide) (by decide) (by decide) (by decide) rfl (Nat.le_of_ble_eq_true rfl)) rfl 0 rfl (by decide) (by decide) (by decide) (by decide) ?_
          rintro _ rfl
          try simp only [List.replicate_succ, List.replicate_zero, List.set_cons_zero, List.set_cons_succ, List.length_nil, List.length_cons, Nat.zero_add, Nat.reduceAdd, List.nil_append, List.cons_append]
          refine go_aload e0_315 rfl rfl ?_
          refine go_aload e0_317 rfl rfl ?_
          refine go_iload e0_319 rfl ?_
          refine go_iload e0_321 rfl ?_
          refine go_iload e0_323 rfl ?_
          refine go_iconst e0_325 (x := 2) rfl ?_
          refine go_staticV_6 e0_326 (wd 9 rfl) (wd 10 rfl) (wd 11 rfl) (wd 4 rfl) hy_1 pd_4 rfl (c_place0 hw (n := 2) (i := 2) (by decide) (by decide) (by decide)) rfl 0 rfl (by decide) (by decide) (by decide) (by decide) ?_
          rintro _ rfl
          try simp only [List.replicate_succ, List.replicate_zero, List.set_cons_zero, List.set_cons_succ, List.length_nil, List.length_cons, Nat.zero_add, Nat.reduceAdd, List.nil_append, List.cons_append]
          refine go_aload e0_329 rfl rfl ?_
          refine go_aload e0_331 rfl rfl ?_
          refine go_iload e0_333 rfl ?_
          refine go_iload e0_335 rfl ?_
          refine go_iload e0_337 rfl ?_
          refine go_iconst e0_339 (x := 3) rfl ?_
          refine go_staticV_6 e0_340 (wd 9 rfl) (wd 10 rfl) (wd 11 rfl) (wd 4 rfl) hy_1 pd_4 rfl (c_place0 hw (n := 2) (i := 3) (by decide) (by decide) (by decide)) rfl 0 rfl (by decide) (by decide) (by decide) (by decide) ?_
          rintro _ rfl
          try simp only [List.replicate_succ, List.replicate_zero, List.set_cons_zero, List.set_cons_succ, List.length_nil, List.length_cons, Nat.zero_add, Nat.reduceAdd, List.nil_append, List.cons_append]
          refine go_aload e0_343 rfl rfl ?_
          refine go_aload e0_345 rfl rfl ?_
          refine go_iload e0_347 rfl ?_
          refine go_iload e0_349 rfl ?_
          refine go_iload e0_351 rfl ?_
          refine go_iconst e0_353 (x := 4) rfl ?_
          refine go_staticV_6 e0_354 (wd 9 rfl) (wd 10 rfl) (wd 11 rfl) (wd 4 rfl) hy_1 pd_4 rfl (c_place0 hw (n := 2) (i := 4) (by decide) (by decide) (by decide)) rfl 0 rfl (by decide) (by decide) (by decide) (by decide) ?_
          rintro _ rfl
          try simp only [List.replicate_succ, List.replicate_zero, List.set_cons_zero, List.set_cons_succ, List.length_nil, List.length_cons, Nat.zero_add, Nat.reduceAdd, List.nil_append, List.cons_append]
          refine go_aload e0_357 rfl rfl ?_
          refine go_static_1 e0_359 (wd 15 rfl) (wd 16 rfl) (wd 18 rfl) (wd 17 rfl) hy_5 pd_6 rfl (c_norm hw (n := 2) (st := 0) (nn := 2) (va := w1) (vb := w1) rfl rfl (by decide) (by decide) (by intro v hv; simp only [List.mem_cons, List.not_mem_nil, or_false] at hv; rcases hv with rfl | rfl <;> exact ⟨_, rfl⟩) (by decide) rfl (fun j hj => absurd hj (Nat.not_lt_zero _)) rfl rfl) rfl 0 rfl (by decide) (by decide) (by decide) (by decide) ?_
          rintro _ _ ⟨rfl, out, rfl, hol, hout⟩
          rw [if_pos (Int.le_refl _)] at hout
          have o0 : out[0]? = some (.int 0) := hout 0 (by decide)
          have o1 : out[1]? = some (.int w1) := hout 1 (by decide)
          try simp only [List.replicate_succ, List.replicate_zero, List.set_cons_zero, List.set_cons_succ, List.length_nil, List.length_cons, Nat.zero_add, Nat.reduceAdd, List.nil_append, List.cons_append]
          refine go_astore_15 e0_362 rfl rfl ?_
          refine go_aload e0_364 rfl rfl ?_
          refine go_aload e0_366 rfl rfl ?_
          refine go_acmp e0_368 rfl rfl (same := false) (by decide) (tg := 379) (by decide) ?_
          show Go C 371 _ _ _ _ _
          refine go_aload e0_371 rfl rfl ?_
          refine go_len e0_373 rfl (n := 2) (by rw [hol]; decide) ?_
          refine go_iload e0_374 rfl ?_
          refine go_iceqY e0_376 (tg := 381) (by decide) rfl ?_
          refine go_aload e0_381 rfl rfl ?_
          refine go_aload e0_383 rfl rfl ?_
          refine go_iload e0_385 rfl ?_
          refine go_iconst e0_387 (x := 0) rfl ?_
          refine go_iconst e0_388 (x := 1) rfl ?_
          refine go_iconst e0_389 (x := 0) rfl ?_
          refine go_static_6 e0_390 (wd 19 rfl) (wd 20 rfl) (wd 21 rfl) (wd 4 rfl) hy_1 pd_7 rfl (c_same1 hw (n := 2) (s1 := 0) (i := 0) (K := 0) rfl rfl (by decide) (by decide) (by decide) (by decide) (by decide) (by decide) (by decide) rfl o0) rfl 0 rfl (by decide) (by decide) (by decide) (by decide) ?_
          rintro _ _ ⟨rfl, rfl⟩
          try simp only [List.replicate_succ, List.replicate_zero, List.set_cons_zero, List.set_cons_succ, List.length_nil, List.length_cons, Nat.zero_add, Nat.reduceAdd, List.nil_append, List.cons_append]
          refine go_ifeqN e0_393 (tg := 460) (by decide) (by decide) ?_
          refine go_aload e0_396 rfl rfl ?_
          refine go_aload e0_398 rfl rfl ?_
          refine go_iload e0_400 rfl ?_
          refine go_iconst e0_402 (x := 0) rfl ?_
          refine go_iconst e0_403 (x := 1) rfl ?_
          refine go_iconst e0_404 (x := 1) rfl ?_
          refine go_static_6 e0_405 (wd 19 rfl) (wd 20 rfl) (wd 21 rfl) (wd 4 rfl) hy_1 pd_7 rfl (c_same1 hw (n := 2) (s1 := 0) (i := 1) (K := 1) rfl rfl (by decide) (by decide) (by decide) (by decide) (by decide) (by decide) (by decide) rfl o1) rfl 0 rfl (by decide) (by decide) (by decide) (by decide) ?_
          rintro _ _ ⟨rfl, rfl⟩
          try simp only [List.replicate_succ, List.replicate_zero, List.set_cons_zero, List.set_cons_succ, List.length_nil, List.length_cons, Nat.zero_add, Nat.reduceAdd, List.nil_append, List.cons_append]
          refine go_ifeqN e0_408 (tg := 460) (by decide) (by decide) ?_
          refine go_aload e0_411 rfl rfl ?_
          refine go_aload e0_413 rfl rfl ?_
          refine go_iload e0_415 rfl ?_
          refine go_iconst e0_417 (x := 0) rfl ?_
          refine go_iconst e0_418 (x := 1) rfl ?_
          refine go_iconst e0_419 (x := 2) rfl ?_
          refine go_static_6 e0_420 (wd 19 rfl) (wd 20 rfl) (wd 21 rfl) (wd 4 rfl) hy_1 pd_7 rfl (c_same0 hw (n := 2) (i := 2) (by decide) (by decide) (by decide)) rfl 0 rfl (by decide) (by decide) (by decide) (by decide) ?_
          rintro _ _ ⟨rfl, rfl⟩
          try simp only [List.replicate_succ, List.replicate_zero, List.set_cons_zero, List.set_cons_succ, List.length_nil, List.length_cons, Nat.zero_add, Nat.reduceAdd, List.nil_append, List.cons_append]
          refine go_ifeqN e0_423 (tg := 460) (by decide) (by decide) ?_
          refine go_aload e0_426 rfl rfl ?_
          refine go_aload e0_428 rfl rfl ?_
          refine go_iload e0_430 rfl ?_
          refine go_iconst e0_432 (x := 0) rfl ?_
          refine go_iconst e0_433 (x := 1) rfl ?_
          refine go_iconst e0_434 (x := 3) rfl ?_
          refine go_static_6 e0_435 (wd 19 rfl) (wd 20 rfl) (wd 21 rfl) (wd 4 rfl) hy_1 pd_7 rfl (c_same0 hw (n := 2) (i := 3) (by decide) (by decide) (by decide)) rfl 0 rfl (by decide) (by decide) (by decide) (by decide) ?_
          rintro _ _ ⟨rfl, rfl⟩
          try simp only [List.replicate_succ, List.replicate_zero, List.set_cons_zero, List.set_cons_succ, List.length_nil, List.length_cons, Nat.zero_add, Nat.reduceAdd, List.nil_append, List.cons_append]
          refine go_ifeqN e0_438 (tg := 460) (by decide) (by decide) ?_
          refine go_aload e0_441 rfl rfl ?_
          refine go_aload e0_443 rfl rfl ?_
          refine go_iload e0_445 rfl ?_
          refine go_iconst e0_447 (x := 0) rfl ?_
          refine go_iconst e0_448 (x := 1) rfl ?_
          refine go_iconst e0_449 (x := 4) rfl ?_
          refine go_static_6 e0_450 (wd 19 rfl) (wd 20 rfl) (wd 21 rfl) (wd 4 rfl) hy_1 pd_7 rfl (c_same0 hw (n := 2) (i := 4) (by decide) (by decide) (by decide)) rfl 0 rfl (by decide) (by decide) (by decide) (by decide) ?_
          rintro _ _ ⟨rfl, rfl⟩
          try simp only [List.replicate_succ, List.replicate_zero, List.set_cons_zero, List.set_cons_succ, List.length_nil, List.length_cons, Nat.zero_add, Nat.reduceAdd, List.nil_append, List.cons_append]
          refine go_ifeqN e0_453 (tg := 460) (by decide) (by decide) ?_
          refine go_iconst e0_456 (x := 1) rfl ?_
          refine go_goto e0_457 (tg := 461) (by decide) ?_
          refine go_istore_16 e0_461 rfl ?_
          refine go_aload e0_463 rfl rfl ?_
          refine go_aload e0_465 rfl rfl ?_
          refine go_iload e0_467 rfl ?_
          refine go_iload e0_469 rfl ?_
          refine go_iload e0_471 rfl ?_
          refine go_iconst e0_473 (x := 0) rfl ?_
          refine go_static_6 e0_474 (wd 19 rfl) (wd 20 rfl) (wd 21 rfl) (wd 4 rfl) hy_1 pd_7 rfl (c_same1 hw (n := 2) (s1 := 0) (i := 0) (K := 0) rfl rfl (by decide) (by decide) (by decide) (by decide) (by decide) (by decide) (by decide) rfl rfl) rfl 0 rfl (by decide) (by decide) (by decide) (by decide) ?_
          rintro _ _ ⟨rfl, rfl⟩
          try simp only [List.replicate_succ, List.replicate_zero, List.set_cons_zero, List.set_cons_succ, List.length_nil, List.length_cons, Nat.zero_add, Nat.reduceAdd, List.nil_append, List.cons_append]
          refine go_ifeqN e0_477 (tg := 552) (by decide) (by decide) ?_
          refine go_aload e0_480 rfl rfl ?_
          refine go_aload e0_482 rfl rfl ?_
          refine go_iload e0_484 rfl ?_
          refine go_iload e0_486 rfl ?_
          refine go_iload e0_488 rfl ?_
          refine go_iconst e0_490 (x := 1) rfl ?_
          refine go_static_6 e0_491 (wd 19 rfl) (wd 20 rfl) (wd 21 rfl) (wd 4 rfl) hy_1 pd_7 rfl (c_same1 hw (n := 2) (s1 := 0) (i := 1) (K := 1) rfl rfl (by decide) (by decide) (by decide) (by decide) (by decide) (by decide) (by decide) rfl rfl) rfl 0 rfl (by decide) (by decide) (by decide) (by decide) ?_
          rintro _ _ ⟨rfl, rfl⟩
          try simp only [List.replicate_succ, List.replicate_zero, List.set_cons_zero, List.set_cons_succ, List.length_nil, List.length_cons, Nat.zero_add, Nat.reduceAdd, List.nil_append, List.cons_append]
          refine go_ifeqN e0_494 (tg := 552) (by decide) (by decide) ?_
          refine go_aload e0_497 rfl rfl ?_
          refine go_aload e0_499 rfl rfl ?_
          refine go_iload e0_501 rfl ?_
          refine go_iload e0_503 rfl ?_
          refine go_iload e0_505 rfl ?_
          refine go_iconst e0_507 (x := 2) rfl ?_
          refine go_static_6 e0_508 (wd 19 rfl) (wd 20 rfl) (wd 21 rfl) (wd 4 rfl) hy_1 pd_7 rfl (c_same0 hw (n := 2) (i := 2) (by decide) (by decide) (by decide)) rfl 0 rfl (by decide) (by decide) (by decide) (by decide) ?_
          rintro _ _ ⟨rfl, rfl⟩
          try simp only [List.replicate_succ, List.replicate_zero, List.set_cons_zero, List.set_cons_succ, List.length_nil, List.length_cons, Nat.zero_add, Nat.reduceAdd, List.nil_append, List.cons_append]
          refine go_ifeqN e0_511 (tg := 552) (by decide) (by decide) ?_
          refine go_aload e0_514 rfl rfl ?_
          refine go_aload e0_516 rfl rfl ?_
          refine go_iload e0_518 rfl ?_
          refine go_iload e0_520 rfl ?_
          refine go_iload e0_522 rfl ?_
          refine go_iconst e0_524 (x := 3) rfl ?_
          refine go_static_6 e0_525 (wd 19 rfl) (wd 20 rfl) (wd 21 rfl) (wd 4 rfl) hy_1 pd_7 rfl (c_same0 hw (n := 2) (i := 3) (by decide) (by decide) (by decide)) rfl 0 rfl (by decide) (by decide) (by decide) (by decide) ?_
          rintro _ _ ⟨rfl, rfl⟩
          try simp only [List.replicate_succ, List.replicate_zero, List.set_cons_zero, List.set_cons_succ, List.length_nil, List.length_cons, Nat.zero_add, Nat.reduceAdd, List.nil_append, List.cons_append]
          refine go_ifeqN e0_528 (tg := 552) (by decide) (by decide) ?_
          refine go_aload e0_531 rfl rfl ?_
          refine go_aload e0_533 rfl rfl ?_
          refine go_iload e0_535 rfl ?_
          refine go_iload e0_537 rfl ?_
          refine go_iload e0_539 rfl ?_
          refine go_iconst e0_541 (x := 4) rfl ?_
          refine go_static_6 e0_542 (wd 19 rfl) (wd 20 rfl) (wd 21 rfl) (wd 4 rfl) hy_1 pd_7 rfl (c_same0 hw (n := 2) (i := 4) (by decide) (by decide) (by decide)) rfl 0 rfl (by decide) (by decide) (by decide) (by decide) ?_
          rintro _ _ ⟨rfl, rfl⟩
          try simp only [List.replicate_succ, List.replicate_zero, List.set_cons_zero, List.set_cons_succ, List.length_nil, List.length_cons, Nat.zero_add, Nat.reduceAdd, List.nil_append, List.cons_append]
          refine go_ifeqN e0_545 (tg := 552) (by decide) (by decide) ?_
          refine go_iconst e0_548 (x := 1) rfl ?_
          refine go_goto e0_549 (tg := 553) (by decide) ?_
          refine go_istore_17 e0_553 rfl ?_
          refine go_iload e0_555 rfl ?_
          refine go_ifeqN e0_557 (tg := 569) (by decide) (by decide) ?_
          refine go_iload e0_560 rfl ?_
          refine go_ifeqN e0_562 (tg := 569) (by decide) (by decide) ?_
          refine go_iconst e0_565 (x := 1) rfl ?_
          refine go_goto e0_566 (tg := 570) (by decide) ?_
          refine go_zreturn e0_570 rfl (by decide) (by decide) (by decide) ?_
          exact rfl
        · intro c271
          refine go_iconst e0_274 (x := 1) rfl ?_
          refine go_goto e0_275 (tg := 279) (by decide) ?_
          refine go_istore_13 e0_279 rfl ?_
          refine go_iload e0_281 rfl ?_
          refine go_newarray e0_283 (wd 1 rfl) (k := 2) rfl (vs := [.int 0, .int 0]) rfl (cap := 2) (by decide) (by decide) (by decide) (by decide) ?_
          simp only [List.replicate_succ, List.replicate_zero, List.set_cons_zero, List.set_cons_succ, List.length_nil, List.length_cons, Nat.zero_add, Nat.reduceAdd, List.nil_append, List.cons_append]
          refine go_astore_14 e0_285 rfl rfl ?_
          refine go_aload e0_287 rfl rfl ?_
          refine go_aload e0_289 rfl rfl ?_
          refine go_iload e0_291 rfl ?_
          refine go_iload e0_293 rfl ?_
          refine go_iload e0_295 rfl ?_
          refine go_iconst e0_297 (x := 0) rfl ?_
          refine go_staticV_6 e0_298 (wd 9 rfl) (wd 10 rfl) (wd 11 rfl) (wd 4 rfl) hy_1 pd_4 rfl (c_place1 hw (n := 2) (s1 := 0) (i := 0) (K := 0) rfl rfl (by decide) (by decide) (by decide) (by decide) (by decide) (by decide) (by decide) rfl (Nat.le_of_ble_eq_true rfl)) rfl 0 rfl (by decide) (by decide) (by decide) (by decide) ?_
          rintro _ rfl
          try simp only [List.replicate_succ, List.replicate_zero, List.set_cons_zero, List.set_cons_succ, List.length_nil, List.length_cons, Nat.zero_add, Nat.reduceAdd, List.nil_append, List.cons_append]
          refine go_aload e0_301 rfl rfl ?_
          refine go_aload e0_303 rfl rfl ?_
          refine go_iload e0_305 rfl ?_
          refine go_iload e0_307 rfl ?_
          refine go_iload e0_309 rfl ?_
          refine go_iconst e0_311 (x := 1) rfl ?_
          refine go_staticV_6 e0_312 (wd 9 rfl) (wd 10 rfl) (wd 11 rfl) (wd 4 rfl) hy_1 pd_4 rfl (c_place1 hw (n := 2) (s1 := 0) (i := 1) (K := 1) rfl rfl (by decide) (by decide) (by decide) (by decide) (by decide) (by decide) (by decide) rfl (Nat.le_of_ble_eq_true rfl)) rfl 0 rfl (by decide) (by decide) (by decide) (by decide) ?_
          rintro _ rfl
          try simp only [List.replicate_succ, List.replicate_zero, List.set_cons_zero, List.set_cons_succ, List.length_nil, List.length_cons, Nat.zero_add, Nat.reduceAdd, List.nil_append, List.cons_append]
          refine go_aload e0_315 rfl rfl ?_
          refine go_aload e0_317 rfl rfl ?_
          refine go_iload e0_319 rfl ?_
          refine go_iload e0_321 rfl ?_
          refine go_iload e0_323 rfl ?_
          refine go_iconst e0_325 (x := 2) rfl ?_
          refine go_staticV_6 e0_326 (wd 9 rfl) (wd 10 rfl) (wd 11 rfl) (wd 4 rfl) hy_1 pd_4 rfl (c_place0 hw (n := 2) (i := 2) (by decide) (by decide) (by decide)) rfl 0 rfl (by decide) (by decide) (by decide) (by decide) ?_
          rintro _ rfl
          try simp only [List.replicate_succ, List.replicate_zero, List.set_cons_zero, List.set_cons_succ, List.length_nil, List.length_cons, Nat.zero_add, Nat.reduceAdd, List.nil_append, List.cons_append]
          refine go_aload e0_329 rfl rfl ?_
          refine go_aload e0_331 rfl rfl ?_
          refine go_iload e0_333 rfl ?_
          refine go_iload e0_335 rfl ?_
          refine go_iload e0_337 rfl ?_
          refine go_iconst e0_339 (x := 3) rfl ?_
          refine go_staticV_6 e0_340 (wd 9 rfl) (wd 10 rfl) (wd 11 rfl) (wd 4 rfl) hy_1 pd_4 rfl (c_place0 hw (n := 2) (i := 3) (by decide) (by decide) (by decide)) rfl 0 rfl (by decide) (by decide) (by decide) (by decide) ?_
          rintro _ rfl
          try simp only [List.replicate_succ, List.replicate_zero, List.set_cons_zero, List.set_cons_succ, List.length_nil, List.length_cons, Nat.zero_add, Nat.reduceAdd, List.nil_append, List.cons_append]
          refine go_aload e0_343 rfl rfl ?_
          refine go_aload e0_345 rfl rfl ?_
          refine go_iload e0_347 rfl ?_
          refine go_iload e0_349 rfl ?_
          refine go_iload e0_351 rfl ?_
          refine go_iconst e0_353 (x := 4) rfl ?_
          refine go_staticV_6 e0_354 (wd 9 rfl) (wd 10 rfl) (wd 11 rfl) (wd 4 rfl) hy_1 pd_4 rfl (c_place0 hw (n := 2) (i := 4) (by decide) (by decide) (by decide)) rfl 0 rfl (by decide) (by decide) (by decide) (by decide) ?_
          rintro _ rfl
          try simp only [List.replicate_succ, List.replicate_zero, List.set_cons_zero, List.set_cons_succ, List.length_nil, List.length_cons, Nat.zero_add, Nat.reduceAdd, List.nil_append, List.cons_append]
          refine go_aload e0_357 rfl rfl ?_
          refine go_static_1 e0_359 (wd 15 rfl) (wd 16 rfl) (wd 18 rfl) (wd 17 rfl) hy_5 pd_6 rfl (c_norm hw (n := 2) (st := 0) (nn := 2) (va := w1) (vb := w1) rfl rfl (by decide) (by decide) (by intro v hv; simp only [List.mem_cons, List.not_mem_nil, or_false] at hv; rcases hv with rfl | rfl <;> exact ⟨_, rfl⟩) (by decide) rfl (fun j hj => absurd hj (Nat.not_lt_zero _)) rfl rfl) rfl 0 rfl (by decide) (by decide) (by decide) (by decide) ?_
          rintro _ _ ⟨rfl, out, rfl, hol, hout⟩
          rw [if_pos (Int.le_refl _)] at hout
          have o0 : out[0]? = some (.int 0) := hout 0 (by decide)
          have o1 : out[1]? = some (.int w1) := hout 1 (by decide)
          try simp only [List.replicate_succ, List.replicate_zero, List.set_cons_zero, List.set_cons_succ, List.length_nil, List.length_cons, Nat.zero_add, Nat.reduceAdd, List.nil_append, List.cons_append]
          refine go_astore_15 e0_362 rfl rfl ?_
          refine go_aload e0_364 rfl rfl ?_
          refine go_aload e0_366 rfl rfl ?_
          refine go_acmp e0_368 rfl rfl (same := false) (by decide) (tg := 379) (by decide) ?_
          show Go C 371 _ _ _ _ _
          refine go_aload e0_371 rfl rfl ?_
          refine go_len e0_373 rfl (n := 2) (by rw [hol]; decide) ?_
          refine go_iload e0_374 rfl ?_
          refine go_iceqY e0_376 (tg := 381) (by decide) rfl ?_
          refine go_aload e0_381 rfl rfl ?_
          refine go_aload e0_383 rfl rfl ?_
          refine go_iload e0_385 rfl ?_
          refine go_iconst e0_387 (x := 0) rfl ?_
          refine go_iconst e0_388 (x := 1) rfl ?_
          refine go_iconst e0_389 (x := 0) rfl ?_
          refine go_static_6 e0_390 (wd 19 rfl) (wd 20 rfl) (wd 21 rfl) (wd 4 rfl) hy_1 pd_7 rfl (c_same1 hw (n := 2) (s1 := 0) (i := 0) (K := 0) rfl rfl (by decide) (by decide) (by decide) (by decide) (by decide) (by decide) (by decide) rfl o0) rfl 0 rfl (by decide) (by decide) (by decide) (by decide) ?_
          rintro _ _ ⟨rfl, rfl⟩
          try simp only [List.replicate_succ, List.replicate_zero, List.set_cons_zero, List.set_cons_succ, List.length_nil, List.length_cons, Nat.zero_add, Nat.reduceAdd, List.nil_append, List.cons_append]
          refine go_ifeqN e0_393 (tg := 460) (by decide) (by decide) ?_
          refine go_aload e0_396 rfl rfl ?_
          refine go_aload e0_398 rfl rfl ?_
          refine go_iload e0_400 rfl ?_
          refine go_iconst e0_402 (x := 0) rfl ?_
          refine go_iconst e0_403 (x := 1) rfl ?_
          refine go_iconst e0_404 (x := 1) rfl ?_
          refine go_static_6 e0_405 (wd 19 rfl) (wd 20 rfl) (wd 21 rfl) (wd 4 rfl) hy_1 pd_7 rfl (c_same1 hw (n := 2) (s1 := 0) (i := 1) (K := 1) rfl rfl (by decide) (by decide) (by decide) (by decide) (by decide) (by decide) (by decide) rfl o1) rfl 0 rfl (by decide) (by decide) (by decide) (by decide) ?_
          rintro _ _ ⟨rfl, rfl⟩
          try simp only [List.replicate_succ, List.replicate_zero, List.set_cons_zero, List.set_cons_succ, List.length_nil, List.length_cons, Nat.zero_add, Nat.reduceAdd, List.nil_append, List.cons_append]
          refine go_ifeqN e0_408 (tg := 460) (by decide) (by decide) ?_
          refine go_aload e0_411 rfl rfl ?_
          refine go_aload e0_413 rfl rfl ?_
          refine go_iload e0_415 rfl ?_
          refine go_iconst e0_417 (x := 0) rfl ?_
          refine go_iconst e0_418 (x := 1) rfl ?_
          refine go_iconst e0_419 (x := 2) rfl ?_
          refine go_static_6 e0_420 (wd 19 rfl) (wd 20 rfl) (wd 21 rfl) (wd 4 rfl) hy_1 pd_7 rfl (c_same0 hw (n := 2) (i := 2) (by decide) (by decide) (by decide)) rfl 0 rfl (by decide) (by decide) (by decide) (by decide) ?_
          rintro _ _ ⟨rfl, rfl⟩
          try simp only [List.replicate_succ, List.replicate_zero, List.set_cons_zero, List.set_cons_succ, List.length_nil, List.length_cons, Nat.zero_add, Nat.reduceAdd, List.nil_append, List.cons_append]
          refine go_ifeqN e0_423 (tg := 460) (by decide) (by decide) ?_
          refine go_aload e0_426 rfl rfl ?_
          refine go_aload e0_428 rfl rfl ?_
          refine go_iload e0_430 rfl ?_
          refine go_iconst e0_432 (x := 0) rfl ?_
          refine go_iconst e0_433 (x := 1) rfl ?_
          refine go_iconst e0_434 (x := 3) rfl ?_
          refine go_static_6 e0_435 (wd 19 rfl) (wd 20 rfl) (wd 21 rfl) (wd 4 rfl) hy_1 pd_7 rfl (c_same0 hw (n := 2) (i := 3) (by decide) (by decide) (by decide)) rfl 0 rfl (by decide) (by decide) (by decide) (by decide) ?_
          rintro _ _ ⟨rfl, rfl⟩
          try simp only [List.replicate_succ, List.replicate_zero, List.set_cons_zero, List.set_cons_succ, List.length_nil, List.length_cons, Nat.zero_add, Nat.reduceAdd, List.nil_append, List.cons_append]
          refine go_ifeqN e0_438 (tg := 460) (by decide) (by decide) ?_
          refine go_aload e0_441 rfl rfl ?_
          refine go_aload e0_443 rfl rfl ?_
          refine go_iload e0_445 rfl ?_
          refine go_iconst e0_447 (x := 0) rfl ?_
          refine go_iconst e0_448 (x := 1) rfl ?_
          refine go_iconst e0_449 (x := 4) rfl ?_
          refine go_static_6 e0_450 (wd 19 rfl) (wd 20 rfl) (wd 21 rfl) (wd 4 rfl) hy_1 pd_7 rfl (c_same0 hw (n := 2) (i := 4) (by decide) (by decide) (by decide)) rfl 0 rfl (by decide) (by decide) (by decide) (by decide) ?_
          rintro _ _ ⟨rfl, rfl⟩
          try simp only [List.replicate_succ, List.replicate_zero, List.set_cons_zero, List.set_cons_succ, List.length_nil, List.length_cons, Nat.zero_add, Nat.reduceAdd, List.nil_append, List.cons_append]
          refine go_ifeqN e0_453 (tg := 460) (by decide) (by decide) ?_
          refine go_iconst e0_456 (x := 1) rfl ?_
          refine go_goto e0_457 (tg := 461) (by decide) ?_
          refine go_istore_16 e0_461 rfl ?_
          refine go_aload e0_463 rfl rfl ?_
          refine go_aload e0_465 rfl rfl ?_
          refine go_iload e0_467 rfl ?_
          refine go_iload e0_469 rfl ?_
          refine go_iload e0_471 rfl ?_
          refine go_iconst e0_473 (x := 0) rfl ?_
          refine go_static_6 e0_474 (wd 19 rfl) (wd 20 rfl) (wd 21 rfl) (wd 4 rfl) hy_1 pd_7 rfl (c_same1 hw (n := 2) (s1 := 0) (i := 0) (K := 0) rfl rfl (by decide) (by decide) (by decide) (by decide) (by decide) (by decide) (by decide) rfl rfl) rfl 0 rfl (by decide) (by decide) (by decide) (by decide) ?_
          rintro _ _ ⟨rfl, rfl⟩
          try simp only [List.replicate_succ, List.replicate_zero, List.set_cons_zero, List.set_cons_succ, List.length_nil, List.length_cons, Nat.zero_add, Nat.reduceAdd, List.nil_append, List.cons_append]
          refine go_ifeqN e0_477 (tg := 552) (by decide) (by decide) ?_
          refine go_aload e0_480 rfl rfl ?_
          refine go_aload e0_482 rfl rfl ?_
          refine go_iload e0_484 rfl ?_
          refine go_iload e0_486 rfl ?_
          refine go_iload e0_488 rfl ?_
          refine go_iconst e0_490 (x := 1) rfl ?_
          refine go_static_6 e0_491 (wd 19 rfl) (wd 20 rfl) (wd 21 rfl) (wd 4 rfl) hy_1 pd_7 rfl (c_same1 hw (n := 2) (s1 := 0) (i := 1) (K := 1) rfl rfl (by decide) (by decide) (by decide) (by decide) (by decide) (by decide) (by decide) rfl rfl) rfl 0 rfl (by decide) (by decide) (by decide) (by decide) ?_
          rintro _ _ ⟨rfl, rfl⟩
          try simp only [List.replicate_succ, List.replicate_zero, List.set_cons_zero, List.set_cons_succ, List.length_nil, List.length_cons, Nat.zero_add, Nat.reduceAdd, List.nil_append, List.cons_append]
          refine go_ifeqN e0_494 (tg := 552) (by decide) (by decide) ?_
          refine go_aload e0_497 rfl rfl ?_
          refine go_aload e0_499 rfl rfl ?_
          refine go_iload e0_501 rfl ?_
          refine go_iload e0_503 rfl ?_
          refine go_iload e0_505 rfl ?_
          refine go_iconst e0_507 (x := 2) rfl ?_
          refine go_static_6 e0_508 (wd 19 rfl) (wd 20 rfl) (wd 21 rfl) (wd 4 rfl) hy_1 pd_7 rfl (c_same0 hw (n := 2) (i := 2) (by decide) (by decide) (by decide)) rfl 0 rfl (by decide) (by decide) (by decide) (by decide) ?_
          rintro _ _ ⟨rfl, rfl⟩
          try simp only [List.replicate_succ, List.replicate_zero, List.set_cons_zero, List.set_cons_succ, List.length_nil, List.length_cons, Nat.zero_add, Nat.reduceAdd, List.nil_append, List.cons_append]
          refine go_ifeqN e0_511 (tg := 552) (by decide) (by decide) ?_
          refine go_aload e0_514 rfl rfl ?_
          refine go_aload e0_516 rfl rfl ?_
          refine go_iload e0_518 rfl ?_
          refine go_iload e0_520 rfl ?_
          refine go_iload e0_522 rfl ?_
          refine go_iconst e0_524 (x := 3) rfl ?_
          refine go_static_6 e0_525 (wd 19 rfl) (wd 20 rfl) (wd 21 rfl) (wd 4 rfl) hy_1 pd_7 rfl (c_same0 hw (n := 2) (i := 3) (by decide) (by decide) (by decide)) rfl 0 rfl (by decide) (by decide) (by decide) (by decide) ?_
          rintro _ _ ⟨rfl, rfl⟩
          try simp only [List.replicate_succ, List.replicate_zero, List.set_cons_zero, List.set_cons_succ, List.length_nil, List.length_cons, Nat.zero_add, Nat.reduceAdd, List.nil_append, List.cons_append]
          refine go_ifeqN e0_528 (tg := 552) (by decide) (by decide) ?_
          refine go_aload e0_531 rfl rfl ?_
          refine go_aload e0_533 rfl rfl ?_
          refine go_iload e0_535 rfl ?_
          refine go_iload e0_537 rfl ?_
          refine go_iload e0_539 rfl ?_
          refine go_iconst e0_541 (x := 4) rfl ?_
          refine go_static_6 e0_542 (wd 19 rfl) (wd 20 rfl) (wd 21 rfl) (wd 4 rfl) hy_1 pd_7 rfl (c_same0 hw (n := 2) (i := 4) (by decide) (by decide) (by decide)) rfl 0 rfl (by decide) (by decide) (by decide) (by decide) ?_
          rintro _ _ ⟨rfl, rfl⟩
          try simp only [List.replicate_succ, List.replicate_zero, List.set_cons_zero, List.set_cons_succ, List.length_nil, List.length_cons, Nat.zero_add, Nat.reduceAdd, List.nil_append, List.cons_append]
          refine go_ifeqN e0_545 (tg := 552) (by decide) (by decide) ?_
          refine go_iconst e0_548 (x := 1) rfl ?_
          refine go_goto e0_549 (tg := 553) (by decide) ?_
          refine go_istore_17 e0_553 rfl ?_
          refine go_iload e0_555 rfl ?_
          refine go_ifeqN e0_557 (tg := 569) (by decide) (by decide) ?_
          refine go_iload e0_560 rfl ?_
          refine go_ifeqN e0_562 (tg := 569) (by decide) (by decide) ?_
          refine go_iconst e0_565 (x := 1) rfl ?_
          refine go_goto e0_566 (tg := 570) (by decide) ?_
          refine go_zreturn e0_570 rfl (by decide) (by decide) (by decide) ?_
          exact rfl
      · refine go_iloadN e0_268 rfl ?_
        refine go_iconst e0_269 (x := 1) rfl ?_
        refine go_iand e0_270 ?_
        refine go_ifeq e0_271 (tg := 278) (by decide) ?_ ?_
        · intro c271
          refine go_iconst e0_278 (x := 0) rfl ?_
          refine go_istore_13 e0_279 rfl ?_
          refine go_iload e0_281 rfl ?_
          refine go_newarray e0_283 (wd 1 rfl) (k := 2) rfl (vs := [.int 0, .int 0]) rfl (cap := 2) (by decide) (by decide) (by decide) (by decide) ?_
          simp only [List.replicate_succ, List.replicate_zero, List.set_cons_zero, List.set_cons_succ, List.length_nil, List.length_cons, Nat.zero_add, Nat.reduceAdd, List.nil_append, List.cons_append]
          refine go_astore_14 e0_285 rfl rfl ?_
          refine go_aload e0_287 rfl rfl ?_
          refine go_aload e0_289 rfl rfl ?_
          refine go_iload e0_291 rfl ?_
          refine go_iload e0_293 rfl ?_
          refine go_iload e0_295 rfl ?_
          refine go_iconst e0_297 (x := 0) rfl ?_
          refine go_staticV_6 e0_298 (wd 9 rfl) (wd 10 rfl) (wd 11 rfl) (wd 4 rfl) hy_1 pd_4 rfl (c_place1 hw (n := 2) (s1 := 1) (i := 0) (K := 1) rfl rfl (by decide) (by decide) (by decide) (by decide) (by decide) (by decide) (by decide) rfl (Nat.le_of_ble_eq_true rfl)) rfl 0 rfl (by decide) (by decide) (by decide) (by decide) ?_
          rintro _ rfl
          try simp only [List.replicate_succ, List.replicate_zero, List.set_cons_zero, List.set_cons_succ, List.length_nil, List.length_cons, Nat.zero_add, Nat.reduceAdd, List.nil_append, List.cons_append]
          refine go_aload e0_301 rfl rfl ?_
          refine go_aload e0_303 rfl rfl ?_
          refine go_iload e0_305 rfl ?_
          refine go_iload e0_307 rfl ?_
          refine go_iload e0_309 rfl ?_
          refine go_iconst e0_311 (x := 1) rfl ?_
          refine go_staticV_6 e0_312 (wd 9 rfl) (wd 10 rfl) (wd 11 rfl) (wd 4 rfl) hy_1 pd_4 rfl (c_place1 hw (n := 2) (s1 := 1) (i := 1) (K := 0) rfl rfl (by decide) (by decide) (by decide) (by decide) (by decide) (by decide) (by decide) rfl (Nat.le_of_ble_eq_true rfl)) rfl 0 rfl (by decide) (by decide) (by decide) (by decide) ?_
          rintro _ rfl
          try simp only [List.replicate_succ, List.replicate_zero, List.set_cons_zero, List.set_cons_succ, List.length_nil, List.length_cons, Nat.zero_add, Nat.reduceAdd, List.nil_append, List.cons_append]
          refine go_aload e0_315 rfl rfl ?_
          refine go_aload e0_317 rfl rfl ?_
          refine go_iload e0_319 rfl ?_
          refine go_iload e0_321 rfl ?_
          refine go_iload e0_323 rfl ?_
          refine go_iconst e0_325 (x := 2) rfl ?_
          refine go_staticV_6 e0_326 (wd 9 rfl) (wd 10 rfl) (wd 11 rfl) (wd 4 rfl) hy_1 pd_4 rfl (c_place0 hw (n := 2) (i := 2) (by decide) (by decide) (by decide)) rfl 0 rfl (by decide) (by decide) (by decide) (by decide) ?_
          rintro _ rfl
          try simp only [List.replicate_succ, List.replicate_zero, List.set_cons_zero, List.set_cons_succ, List.length_nil, List.length_cons, Nat.zero_add, Nat.reduceAdd, List.nil_append, List.cons_append]
          refine go_aload e0_329 rfl rfl ?_
          refine go_aload e0_331 rfl rfl ?_
          refine go_iload e0_333 rfl ?_
          refine go_iload e0_335 rfl ?_
          refine go_iload e0_337 rfl ?_
          refine go_iconst e0_339 (x := 3) rfl ?_
          refine go_staticV_6 e0_340 (wd 9 rfl) (wd 10 rfl) (wd 11 rfl) (wd 4 rfl) hy_1 pd_4 rfl (c_place0 hw (n := 2) (i := 3) (by decide) (by decide) (by decide)) rfl 0 rfl (by decide) (by decide) (by decide) (by decide) ?_
          rintro _ rfl
          try simp only [List.replicate_succ, List.replicate_zero, List.set_cons_zero, List.set_cons_succ, List.length_nil, List.length_cons, Nat.zero_add, Nat.reduceAdd, List.nil_append, List.cons_append]
          refine go_aload e0_343 rfl rfl ?_
          refine go_aload e0_345 rfl rfl ?_
          refine go_iload e0_347 rfl ?_
          refine go_iload e0_349 rfl ?_
          refine go_iload e0_351 rfl ?_
          refine go_iconst e0_353 (x := 4) rfl ?_
          refine go_staticV_6 e0_354 (wd 9 rfl) (wd 10 rfl) (wd 11 rfl) (wd 4 rfl) hy_1 pd_4 rfl (c_place0 hw (n := 2) (i := 4) (by decide) (by decide) (by decide)) rfl 0 rfl (by decide) (by decide) (by decide) (by decide) ?_
          rintro _ rfl
          try simp only [List.replicate_succ, List.replicate_zero, List.set_cons_zero, List.set_cons_succ, List.length_nil, List.length_cons, Nat.zero_add, Nat.reduceAdd, List.nil_append, List.cons_append]
          refine go_aload e0_357 rfl rfl ?_
          refine go_static_1 e0_359 (wd 15 rfl) (wd 16 rfl) (wd 18 rfl) (wd 17 rfl) hy_5 pd_6 rfl (c_norm hw (n := 2) (st := 1) (nn := 2) (va := w1) (vb := w1) rfl rfl (by decide) (by decide) (by intro v hv; simp only [List.mem_cons, List.not_mem_nil, or_false] at hv; rcases hv with rfl | rfl <;> exact ⟨_, rfl⟩) (by decide) rfl (fun j hj => by
              have hj2 : j = 0 := by omega
              subst hj2
              exact ⟨_, rfl, n1⟩) rfl rfl) rfl 0 rfl (by decide) (by decide) (by decide) (by decide) ?_
          rintro _ _ ⟨rfl, out, rfl, hol, hout⟩
          rw [if_pos (Int.le_refl _)] at hout
          have o0 : out[0]? = some (.int 0) := hout 0 (by decide)
          have o1 : out[1]? = some (.int w1) := hout 1 (by decide)
          try simp only [List.replicate_succ, List.replicate_zero, List.set_cons_zero, List.set_cons_succ, List.length_nil, List.length_cons, Nat.zero_add, Nat.reduceAdd, List.nil_append, List.cons_append]
          refine go_astore_15 e0_362 rfl rfl ?_
          refine go_aload e0_364 rfl rfl ?_
          refine go_aload e0_366 rfl rfl ?_
          refine go_acmp e0_368 rfl rfl (same := false) (by decide) (tg := 379) (by decide) ?_
          show Go C 371 _ _ _ _ _
          refine go_aload e0_371 rfl rfl ?_
          refine go_len e0_373 rfl (n := 2) (by rw [hol]; decide) ?_
          refine go_iload e0_374 rfl ?_
          refine go_iceqY e0_376 (tg := 381) (by decide) rfl ?_
          refine go_aload e0_381 rfl rfl ?_
          refine go_aload e0_383 rfl rfl ?_
          refine go_iload e0_385 rfl ?_
          refine go_iconst e0_387 (x := 0) rfl ?_
          refine go_iconst e0_388 (x := 1) rfl ?_
          refine go_iconst e0_389 (x := 0) rfl ?_
          refine go_static_6 e0_390 (wd 19 rfl) (wd 20 rfl) (wd 21 rfl) (wd 4 rfl) hy_1 pd_7 rfl (c_same1 hw (n := 2) (s1 := 0) (i := 0) (K := 0) rfl rfl (by decide) (by decide) (by decide) (by decide) (by decide) (by decide) (by decide) rfl o0) rfl 0 rfl (by decide) (by decide) (by decide) (by decide) ?_
          rintro _ _ ⟨rfl, rfl⟩
          try simp only [List.replicate_succ, List.replicate_zero, List.set_cons_zero, List.set_cons_succ, List.length_nil, List.length_cons, Nat.zero_add, Nat.reduceAdd, List.nil_append, List.cons_append]
          refine go_ifeqN e0_393 (tg := 460) (by decide) (by decide) ?_
          refine go_aload e0_396 rfl rfl ?_
          refine go_aload e0_398 rfl rfl ?_
          refine go_iload e0_400 rfl ?_
          refine go_iconst e0_402 (x := 0) rfl ?_
          refine go_iconst e0_403 (x := 1) rfl ?_
          refine go_iconst e0_404 (x := 1) rfl ?_
          refine go_static_6 e0_405 (wd 19 rfl) (wd 20 rfl) (wd 21 rfl) (wd 4 rfl) hy_1 pd_7 rfl (c_same1 hw (n := 2) (s1 := 0) (i := 1) (K := 1) rfl rfl (by decide) (by decide) (by decide) (by decide) (by decide) (by decide) (by decide) rfl o1) rfl 0 rfl (by decide) (by decide) (by decide) (by decide) ?_
          rintro _ _ ⟨rfl, rfl⟩
          try simp only [List.replicate_succ, List.replicate_zero, List.set_cons_zero, List.set_cons_succ, List.length_nil, List.length_cons, Nat.zero_add, Nat.reduceAdd, List.nil_append, List.cons_append]
          refine go_ifeqN e0_408 (tg := 460) (by decide) (by decide) ?_
          refine go_aload e0_411 rfl rfl ?_
          refine go_aload e0_413 rfl rfl ?_
          refine go_iload e0_415 rfl ?_
          refine go_iconst e0_417 (x := 0) rfl ?_
          refine go_iconst e0_418 (x := 1) rfl ?_
          refine go_iconst e0_419 (x := 2) rfl ?_
          refine go_static_6 e0_420 (wd 19 rfl) (wd 20 rfl) (wd 21 rfl) (wd 4 rfl) hy_1 pd_7 rfl (c_same0 hw (n := 2) (i := 2) (by decide) (by decide) (by decide)) rfl 0 rfl (by decide) (by decide) (by decide) (by decide) ?_
          rintro _ _ ⟨rfl, rfl⟩
          try simp only [List.replicate_succ, List.replicate_zero, List.set_cons_zero, List.set_cons_succ, List.length_nil, List.length_cons, Nat.zero_add, Nat.reduceAdd, List.nil_append, List.cons_append]
          refine go_ifeqN e0_423 (tg := 460) (by decide) (by decide) ?_
          refine go_aload e0_426 rfl rfl ?_
          refine go_aload e0_428 rfl rfl ?_
          refine go_iload e0_430 rfl ?_
          refine go_iconst e0_432 (x := 0) rfl ?_
          refine go_iconst e0_433 (x := 1) rfl ?_
          refine go_iconst e0_434 (x := 3) rfl ?_
          refine go_static_6 e0_435 (wd 19 rfl) (wd 20 rfl) (wd 21 rfl) (wd 4 rfl) hy_1 pd_7 rfl (c_same0 hw (n := 2) (i := 3) (by decide) (by decide) (by decide)) rfl 0 rfl (by decide) (by decide) (by decide) (by decide) ?_
          rintro _ _ ⟨rfl, rfl⟩
          try simp only [List.replicate_succ, List.replicate_zero, List.set_cons_zero, List.set_cons_succ, List.length_nil, List.length_cons, Nat.zero_add, Nat.reduceAdd, List.nil_append, List.cons_append]
          refine go_ifeqN e0_438 (tg := 460) (by decide) (by decide) ?_
          refine go_aload e0_441 rfl rfl ?_
          refine go_aload e0_443 rfl rfl ?_
          refine go_iload e0_445 rfl ?_
          refine go_iconst e0_447 (x := 0) rfl ?_
          refine go_iconst e0_448 (x := 1) rfl ?_
          refine go_iconst e0_449 (x := 4) rfl ?_
          refine go_static_6 e0_450 (wd 19 rfl) (wd 20 rfl) (wd 21 rfl) (wd 4 rfl) hy_1 pd_7 rfl (c_same0 hw (n := 2) (i := 4) (by decide) (by decide) (by decide)) rfl 0 rfl (by decide) (by decide) (by decide) (by decide) ?_
          rintro _ _ ⟨rfl, rfl⟩
          try simp only [List.replicate_succ, List.replicate_zero, List.set_cons_zero, List.set_cons_succ, List.length_nil, List.length_cons, Nat.zero_add, Nat.reduceAdd, List.nil_append, List.cons_append]
          refine go_ifeqN e0_453 (tg := 460) (by decide) (by decide) ?_
          refine go_iconst e0_456 (x := 1) rfl ?_
          refine go_goto e0_457 (tg := 461) (by decide) ?_
          refine go_istore_16 e0_461 rfl ?_
          refine go_aload e0_463 rfl rfl ?_
          refine go_aload e0_465 rfl rfl ?_
          refine go_iload e0_467 rfl ?_
          refine go_iload e0_469 rfl ?_
          refine go_iload e0_471 rfl ?_
          refine go_iconst e0_473 (x := 0) rfl ?_
          refine go_static_6 e0_474 (wd 19 rfl) (wd 20 rfl) (wd 21 rfl) (wd 4 rfl) hy_1 pd_7 rfl (c_same1 hw (n := 2) (s1 := 1) (i := 0) (K := 1) rfl rfl (by decide) (by decide) (by decide) (by decide) (by decide) (by decide) (by decide) rfl rfl) rfl 0 rfl (by decide) (by decide) (by decide) (by decide) ?_
          rintro _ _ ⟨rfl, rfl⟩
          try simp only [List.replicate_succ, List.replicate_zero, List.set_cons_zero, List.set_cons_succ, List.length_nil, List.length_cons, Nat.zero_add, Nat.reduceAdd, List.nil_append, List.cons_append]
          refine go_ifeqN e0_477 (tg := 552) (by decide) (by decide) ?_
          refine go_aload e0_480 rfl rfl ?_
          refine go_aload e0_482 rfl rfl ?_
          refine go_iload e0_484 rfl ?_
          refine go_iload e0_486 rfl ?_
          refine go_iload e0_488 rfl ?_
          refine go_iconst e0_490 (x := 1) rfl ?_
          refine go_static_6 e0_491 (wd 19 rfl) (wd 20 rfl) (wd 21 rfl) (wd 4 rfl) hy_1 pd_7 rfl (c_same1 hw (n := 2) (s1 := 1) (i := 1) (K := 0) rfl rfl (by decide) (by decide) (by decide) (by decide) (by decide) (by decide) (by decide) rfl rfl) rfl 0 rfl (by decide) (by decide) (by decide) (by decide) ?_
          rintro _ _ ⟨rfl, rfl⟩
          try simp only [List.replicate_succ, List.replicate_zero, List.set_cons_zero, List.set_cons_succ, List.length_nil, List.length_cons, Nat.zero_add, Nat.reduceAdd, List.nil_append, List.cons_append]
          refine go_ifeqN e0_494 (tg := 552) (by decide) (by decide) ?_
          refine go_aload e0_497 rfl rfl ?_
          refine go_aload e0_499 rfl rfl ?_
          refine go_iload e0_501 rfl ?_
          refine go_iload e0_503 rfl ?_
          refine go_iload e0_505 rfl ?_
          refine go_iconst e0_507 (x := 2) rfl ?_
          refine go_static_6 e0_508 (wd 19 rfl) (wd 20 rfl) (wd 21 rfl) (wd 4 rfl) hy_1 pd_7 rfl (c_same0 hw (n := 2) (i := 2) (by decide) (by decide) (by decide)) rfl 0 rfl (by decide) (by decide) (by decide) (by decide) ?_
          rintro _ _ ⟨rfl, rfl⟩
          try simp only [List.replicate_succ, List.replicate_zero, List.set_cons_zero, List.set_cons_succ, List.length_nil, List.length_cons, Nat.zero_add, Nat.reduceAdd, List.nil_append, List.cons_append]
          refine go_ifeqN e0_511 (tg := 552) (by decide) (by decide) ?_
          refine go_aload e0_514 rfl rfl ?_
          refine go_aload e0_516 rfl rfl ?_
          refine go_iload e0_518 rfl ?_
          refine go_iload e0_520 rfl ?_
          refine go_iload e0_522 rfl ?_
          refine go_iconst e0_524 (x := 3) rfl ?_
          refine go_static_6 e0_525 (wd 19 rfl) (wd 20 rfl) (wd 21 rfl) (wd 4 rfl) hy_1 pd_7 rfl (c_same0 hw (n := 2) (i := 3) (by decide) (by decide) (by decide)) rfl 0 rfl (by decide) (by decide) (by decide) (by decide) ?_
          rintro _ _ ⟨rfl, rfl⟩
          try simp only [List.replicate_succ, List.replicate_zero, List.set_cons_zero, List.set_cons_succ, List.length_nil, List.length_cons, Nat.zero_add, Nat.reduceAdd, List.nil_append, List.cons_append]
          refine go_ifeqN e0_528 (tg := 552) (by decide) (by decide) ?_
          refine go_aload e0_531 rfl rfl ?_
          refine go_aload e0_533 rfl rfl ?_
          refine go_iload e0_535 rfl ?_
          refine go_iload e0_537 rfl ?_
          refine go_iload e0_539 rfl ?_
          refine go_iconst e0_541 (x := 4) rfl ?_
          refine go_static_6 e0_542 (wd 19 rfl) (wd 20 rfl) (wd 21 rfl) (wd 4 rfl) hy_1 pd_7 rfl (c_same0 hw (n := 2) (i := 4) (by decide) (by decide) (by decide)) rfl 0 rfl (by decide) (by decide) (by decide) (by decide) ?_
          rintro _ _ ⟨rfl, rfl⟩
          try simp only [List.replicate_succ, List.replicate_zero, List.set_cons_zero, List.set_cons_succ, List.length_nil, List.length_cons, Nat.zero_add, Nat.reduceAdd, List.nil_append, List.cons_append]
          refine go_ifeqN e0_545 (tg := 552) (by decide) (by decide) ?_
          refine go_iconst e0_548 (x := 1) rfl ?_
          refine go_goto e0_549 (tg := 553) (by decide) ?_
          refine go_istore_17 e0_553 rfl ?_
          refine go_iload e0_555 rfl ?_
          refine go_ifeqN e0_557 (tg := 569) (by decide) (by decide) ?_
          refine go_iload e0_560 rfl ?_
          refine go_ifeqN e0_562 (tg := 569) (by decide) (by decide) ?_
          refine go_iconst e0_565 (x := 1) rfl ?_
          refine go_goto e0_566 (tg := 570) (by decide) ?_
          refine go_zreturn e0_570 rfl (by decide) (by decide) (by decide) ?_
          exact rfl
        · intro c271
          refine go_iconst e0_274 (x := 1) rfl ?_
          refine go_goto e0_275 (tg := 279) (by decide) ?_
          refine go_istore_13 e0_279 rfl ?_
          refine go_iload e0_281 rfl ?_
          refine go_newarray e0_283 (wd 1 rfl) (k := 2) rfl (vs := [.int 0, .int 0]) rfl (cap := 2) (by decide) (by decide) (by decide) (by decide) ?_
          simp only [List.replicate_succ, List.replicate_zero, List.set_cons_zero, List.set_cons_succ, List.length_nil, List.length_cons, Nat.zero_add, Nat.reduceAdd, List.nil_append, List.cons_append]
          refine go_astore_14 e0_285 rfl rfl ?_
          refine go_aload e0_287 rfl rfl ?_
          refine go_aload e0_289 rfl rfl ?_
          refine go_iload e0_291 rfl ?_
          refine go_iload e0_293 rfl ?_
          refine go_iload e0_295 rfl ?_
          refine go_iconst e0_297 (x := 0) rfl ?_
          refine go_staticV_6 e0_298 (wd 9 rfl) (wd 10 rfl) (wd 11 rfl) (wd 4 rfl) hy_1 pd_4 rfl (c_place1 hw (n := 2) (s1 := 1) (i := 0) (K := 1) rfl rfl (by decide) (by decide) (by decide) (by decide) (by decide) (by decide) (by decide) rfl (Nat.le_of_ble_eq_true rfl)) rfl 0 rfl (by decide) (by decide) (by decide) (by decide) ?_
          rintro _ rfl
          try simp only [List.replicate_succ, List.replicate_zero, List.set_cons_zero, List.set_cons_succ, List.length_nil, List.length_cons, Nat.zero_add, Nat.reduceAdd, List.nil_append, List.cons_append]
          refine go_aload e0_301 rfl rfl ?_
          refine go_aload e0_303 rfl rfl ?_
          refine go_iload e0_305 rfl ?_
          refine go_iload e0_307 rfl ?_
          refine go_iload e0_309 rfl ?_
          refine go_iconst e0_311 (x := 1) rfl ?_
          refine go_staticV_6 e0_312 (wd 9 rfl) (wd 10 rfl) (wd 11 rfl) (wd 4 rfl) hy_1 pd_4 rfl (c_place1 hw (n := 2) (s1 := 1) (i := 1) (K := 0) rfl rfl (by decide) (by decide) (by decide) (by decide) (by decide) (by decide) (by decide) rfl (Nat.le_of_ble_eq_true rfl)) rfl 0 rfl (by decide) (by decide) (by decide) (by decide) ?_
          rintro _ rfl
          try simp only [List.replicate_succ, List.replicate_zero, List.set_cons_zero, List.set_cons_succ, List.length_nil, List.length_cons, Nat.zero_add, Nat.reduceAdd, List.nil_append, List.cons_append]
          refine go_aload e0_315 rfl rfl ?_
          refine go_aload e0_317 rfl rfl ?_
          refine go_iload e0_319 rfl ?_
          refine go_iload e0_321 rfl ?_
          refine go_iload e0_323 rfl ?_
          refine go_iconst e0_325 (x := 2) rfl ?_
          refine go_staticV_6 e0_326 (wd 9 rfl) (wd 10 rfl) (wd 11 rfl) (wd 4 rfl) hy_1 pd_4 rfl (c_place0 hw (n := 2) (i := 2) (by decide) (by decide) (by decide)) rfl 0 rfl (by decide) (by decide) (by decide) (by decide) ?_
          rintro _ rfl
          try simp only [List.replicate_succ, List.replicate_zero, List.set_cons_zero, List.set_cons_succ, List.length_nil, List.length_cons, Nat.zero_add, Nat.reduceAdd, List.nil_append, List.cons_append]
          refine go_aload e0_329 rfl rfl ?_
          refine go_aload e0_331 rfl rfl ?_
          refine go_iload e0_333 rfl ?_
          refine go_iload e0_335 rfl ?_
          refine go_iload e0_337 rfl ?_
          refine go_iconst e0_339 (x := 3) rfl ?_
          refine go_staticV_6 e0_340 (wd 9 rfl) (wd 10 rfl) (wd 11 rfl) (wd 4 rfl) hy_1 pd_4 rfl (c_place0 hw (n := 2) (i := 3) (by decide) (by decide) (by decide)) rfl 0 rfl (by decide) (by decide) (by decide) (by decide) ?_
          rintro _ rfl
          try simp only [List.replicate_succ, List.replicate_zero, List.set_cons_zero, List.set_cons_succ, List.length_nil, List.length_cons, Nat.zero_add, Nat.reduceAdd, List.nil_append, List.cons_append]
          refine go_aload e0_343 rfl rfl ?_
          refine go_aload e0_345 rfl rfl ?_
          refine go_iload e0_347 rfl ?_
          refine go_iload e0_349 rfl ?_
          refine go_iload e0_351 rfl ?_
          refine go_iconst e0_353 (x := 4) rfl ?_
          refine go_staticV_6 e0_354 (wd 9 rfl) (wd 10 rfl) (wd 11 rfl) (wd 4 rfl) hy_1 pd_4 rfl (c_place0 hw (n := 2) (i := 4) (by decide) (by decide) (by decide)) rfl 0 rfl (by decide) (by decide) (by decide) (by decide) ?_
          rintro _ rfl
          try simp only [List.replicate_succ, List.replicate_zero, List.set_cons_zero, List.set_cons_succ, List.length_nil, List.length_cons, Nat.zero_add, Nat.reduceAdd, List.nil_append, List.cons_append]
          refine go_aload e0_357 rfl rfl ?_
          refine go_static_1 e0_359 (wd 15 rfl) (wd 16 rfl) (wd 18 rfl) (wd 17 rfl) hy_5 pd_6 rfl (c_norm hw (n := 2) (st := 1) (nn := 2) (va := w1) (vb := w1) rfl rfl (by decide) (by decide) (by intro v hv; simp only [List.mem_cons, List.not_mem_nil, or_false] at hv; rcases hv with rfl | rfl <;> exact ⟨_, rfl⟩) (by decide) rfl (fun j hj => by
              have hj2 : j = 0 := by omega
              subst hj2
              exact ⟨_, rfl, n1⟩) rfl rfl) rfl 0 rfl (by decide) (by decide) (by decide) (by decide) ?_
          rintro _ _ ⟨rfl, out, rfl, hol, hout⟩
          rw [if_pos (Int.le_refl _)] at hout
          have o0 : out[0]? = some (.int 0) := hout 0 (by decide)
          have o1 : out[1]? = some (.int w1) := hout 1 (by decide)
          try simp only [List.replicate_succ, List.replicate_zero, List.set_cons_zero, List.set_cons_succ, List.length_nil, List.length_cons, Nat.zero_add, Nat.reduceAdd, List.nil_append, List.cons_append]
          refine go_astore_15 e0_362 rfl rfl ?_
          refine go_aload e0_364 rfl rfl ?_
          refine go_aload e0_366 rfl rfl ?_
          refine go_acmp e0_368 rfl rfl (same := false) (by decide) (tg := 379) (by decide) ?_
          show Go C 371 _ _ _ _ _
          refine go_aload e0_371 rfl rfl ?_
          refine go_len e0_373 rfl (n := 2) (by rw [hol]; decide) ?_
          refine go_iload e0_374 rfl ?_
          refine go_iceqY e0_376 (tg := 381) (by decide) rfl ?_
          refine go_aload e0_381 rfl rfl ?_
          refine go_aload e0_383 rfl rfl ?_
          refine go_iload e0_385 rfl ?_
          refine go_iconst e0_387 (x := 0) rfl ?_
          refine go_iconst e0_388 (x := 1) rfl ?_
          refine go_iconst e0_389 (x := 0) rfl ?_
          refine go_static_6 e0_390 (wd 19 rfl) (wd 20 rfl) (wd 21 rfl) (wd 4 rfl) hy_1 pd_7 rfl (c_same1 hw (n := 2) (s1 := 0) (i := 0) (K := 0) rfl rfl (by decide) (by decide) (by decide) (by decide) (by decide) (by decide) (by decide) rfl o0) rfl 0 rfl (by decide) (by decide) (by decide) (by decide) ?_
          rintro _ _ ⟨rfl, rfl⟩
          try simp only [List.replicate_succ, List.replicate_zero, List.set_cons_zero, List.set_cons_succ, List.length_nil, List.length_cons, Nat.zero_add, Nat.reduceAdd, List.nil_append, List.cons_append]
          refine go_ifeqN e0_393 (tg := 460) (by decide) (by decide) ?_
          refine go_aload e0_396 rfl rfl ?_
          refine go_aload e0_398 rfl rfl ?_
          refine go_iload e0_400 rfl ?_
          refine go_iconst e0_402 (x := 0) rfl ?_
          refine go_iconst e0_403 (x := 1) rfl ?_
          refine go_iconst e0_404 (x := 1) rfl ?_
          refine go_static_6 e0_405 (wd 19 rfl) (wd 20 rfl) (wd 21 rfl) (wd 4 rfl) hy_1 pd_7 rfl (c_same1 hw (n := 2) (s1 := 0) (i := 1) (K := 1) rfl rfl (by decide) (by decide) (by decide) (by decide) (by decide) (by decide) (by decide) rfl o1) rfl 0 rfl (by decide) (by decide) (by decide) (by decide) ?_
          rintro _ _ ⟨rfl, rfl⟩
          try simp only [List.replicate_succ, List.replicate_zero, List.set_cons_zero, List.set_cons_succ, List.length_nil, List.length_cons, Nat.zero_add, Nat.reduceAdd, List.nil_append, List.cons_append]
          refine go_ifeqN e0_408 (tg := 460) (by decide) (by decide) ?_
          refine go_aload e0_411 rfl rfl ?_
          refine go_aload e0_413 rfl rfl ?_
          refine go_iload e0_415 rfl ?_
          refine go_iconst e0_417 (x := 0) rfl ?_
          refine go_iconst e0_418 (x := 1) rfl ?_
          refine go_iconst e0_419 (x := 2) rfl ?_
          refine go_static_6 e0_420 (wd 19 rfl) (wd 20 rfl) (wd 21 rfl) (wd 4 rfl) hy_1 pd_7 rfl (c_same0 hw (n := 2) (i := 2) (by decide) (by decide) (by decide)) rfl 0 rfl (by decide) (by decide) (by decide) (by decide) ?_
          rintro _ _ ⟨rfl, rfl⟩
          try simp only [List.replicate_succ, List.replicate_zero, List.set_cons_zero, List.set_cons_succ, List.length_nil, List.length_cons, Nat.zero_add, Nat.reduceAdd, List.nil_append, List.cons_append]
          refine go_ifeqN e0_423 (tg := 460) (by decide) (by decide) ?_
          refine go_aload e0_426 rfl rfl ?_
          refine go_aload e0_428 rfl rfl ?_
          refine go_iload e0_430 rfl ?_
          refine go_iconst e0_432 (x := 0) rfl ?_
          refine go_iconst e0_433 (x := 1) rfl ?_
          refine go_iconst e0_434 (x := 3) rfl ?_
          refine go_static_6 e0_435 (wd 19 rfl) (wd 20 rfl) (wd 21 rfl) (wd 4 rfl) hy_1 pd_7 rfl (c_same0 hw (n := 2) (i := 3) (by decide) (by decide) (by decide)) rfl 0 rfl (by decide) (by decide) (by decide) (by decide) ?_
          rintro _ _ ⟨rfl, rfl⟩
          try simp only [List.replicate_succ, List.replicate_zero, List.set_cons_zero, List.set_cons_succ, List.length_nil, List.length_cons, Nat.zero_add, Nat.reduceAdd, List.nil_append, List.cons_append]
          refine go_ifeqN e0_438 (tg := 460) (by decide) (by decide) ?_
          refine go_aload e0_441 rfl rfl ?_
          refine go_aload e0_443 rfl rfl ?_
          refine go_iload e0_445 rfl ?_
          refine go_iconst e0_447 (x := 0) rfl ?_
          refine go_iconst e0_448 (x := 1) rfl ?_
          refine go_iconst e0_449 (x := 4) rfl ?_
          refine go_static_6 e0_450 (wd 19 rfl) (wd 20 rfl) (wd 21 rfl) (wd 4 rfl) hy_1 pd_7 rfl (c_same0 hw (n := 2) (i := 4) (by decide) (by decide) (by decide)) rfl 0 rfl (by decide) (by decide) (by decide) (by decide) ?_
          rintro _ _ ⟨rfl, rfl⟩
          try simp only [List.replicate_succ, List.replicate_zero, List.set_cons_zero, List.set_cons_succ, List.length_nil, List.length_cons, Nat.zero_add, Nat.reduceAdd, List.nil_append, List.cons_append]
          refine go_ifeqN e0_453 (tg := 460) (by decide) (by decide) ?_
          refine go_iconst e0_456 (x := 1) rfl ?_
          refine go_goto e0_457 (tg := 461) (by decide) ?_
          refine go_istore_16 e0_461 rfl ?_
          refine go_aload e0_463 rfl rfl ?_
          refine go_aload e0_465 rfl rfl ?_
          refine go_iload e0_467 rfl ?_
          refine go_iload e0_469 rfl ?_
          refine go_iload e0_471 rfl ?_
          refine go_iconst e0_473 (x := 0) rfl ?_
          refine go_static_6 e0_474 (wd 19 rfl) (wd 20 rfl) (wd 21 rfl) (wd 4 rfl) hy_1 pd_7 rfl (c_same1 hw (n := 2) (s1 := 1) (i := 0) (K := 1) rfl rfl (by decide) (by decide) (by decide) (by decide) (by decide) (by decide) (by decide) rfl rfl) rfl 0 rfl (by decide) (by decide) (by decide) (by decide) ?_
          rintro _ _ ⟨rfl, rfl⟩
          try simp only [List.replicate_succ, List.replicate_zero, List.set_cons_zero, List.set_cons_succ, List.length_nil, List.length_cons, Nat.zero_add, Nat.reduceAdd, List.nil_append, List.cons_append]
          refine go_ifeqN e0_477 (tg := 552) (by decide) (by decide) ?_
          refine go_aload e0_480 rfl rfl ?_
          refine go_aload e0_482 rfl rfl ?_
          refine go_iload e0_484 rfl ?_
          refine go_iload e0_486 rfl ?_
          refine go_iload e0_488 rfl ?_
          refine go_iconst e0_490 (x := 1) rfl ?_
          refine go_static_6 e0_491 (wd 19 rfl) (wd 20 rfl) (wd 21 rfl) (wd 4 rfl) hy_1 pd_7 rfl (c_same1 hw (n := 2) (s1 := 1) (i := 1) (K := 0) rfl rfl (by decide) (by decide) (by decide) (by decide) (by decide) (by decide) (by decide) rfl rfl) rfl 0 rfl (by decide) (by decide) (by decide) (by decide) ?_
          rintro _ _ ⟨rfl, rfl⟩
          try simp only [List.replicate_succ, List.replicate_zero, List.set_cons_zero, List.set_cons_succ, List.length_nil, List.length_cons, Nat.zero_add, Nat.reduceAdd, List.nil_append, List.cons_append]
          refine go_ifeqN e0_494 (tg := 552) (by decide) (by decide) ?_
          refine go_aload e0_497 rfl rfl ?_
          refine go_aload e0_499 rfl rfl ?_
          refine go_iload e0_501 rfl ?_
          refine go_iload e0_503 rfl ?_
          refine go_iload e0_505 rfl ?_
          refine go_iconst e0_507 (x := 2) rfl ?_
          refine go_static_6 e0_508 (wd 19 rfl) (wd 20 rfl) (wd 21 rfl) (wd 4 rfl) hy_1 pd_7 rfl (c_same0 hw (n := 2) (i := 2) (by decide) (by decide) (by decide)) rfl 0 rfl (by decide) (by decide) (by decide) (by decide) ?_
          rintro _ _ ⟨rfl, rfl⟩
          try simp only [List.replicate_succ, List.replicate_zero, List.set_cons_zero, List.set_cons_succ, List.length_nil, List.length_cons, Nat.zero_add, Nat.reduceAdd, List.nil_append, List.cons_append]
          refine go_ifeqN e0_511 (tg := 552) (by decide) (by decide) ?_
          refine go_aload e0_514 rfl rfl ?_
          refine go_aload e0_516 rfl rfl ?_
          refine go_iload e0_518 rfl ?_
          refine go_iload e0_520 rfl ?_
          refine go_iload e0_522 rfl ?_
          refine go_iconst e0_524 (x := 3) rfl ?_
          refine go_static_6 e0_525 (wd 19 rfl) (wd 20 rfl) (wd 21 rfl) (wd 4 rfl) hy_1 pd_7 rfl (c_same0 hw (n := 2) (i := 3) (by decide) (by decide) (by decide)) rfl 0 rfl (by decide) (by decide) (by decide) (by decide) ?_
          rintro _ _ ⟨rfl, rfl⟩
          try simp only [List.replicate_succ, List.replicate_zero, List.set_cons_zero, List.set_cons_succ, List.length_nil, List.length_cons, Nat.zero_add, Nat.reduceAdd, List.nil_append, List.cons_append]
          refine go_ifeqN e0_528 (tg := 552) (by decide) (by decide) ?_
          refine go_aload e0_531 rfl rfl ?_
          refine go_aload e0_533 rfl rfl ?_
          refine go_iload e0_535 rfl ?_
          refine go_iload e0_537 rfl ?_
          refine go_iload e0_539 rfl ?_
          refine go_iconst e0_541 (x := 4) rfl ?_
          refine go_static_6 e0_542 (wd 19 rfl) (wd 20 rfl) (wd 21 rfl) (wd 4 rfl) hy_1 pd_7 rfl (c_same0 hw (n := 2) (i := 4) (by decide) (by decide) (by decide)) rfl 0 rfl (by decide) (by decide) (by decide) (by decide) ?_
          rintro _ _ ⟨rfl, rfl⟩
          try simp only [List.replicate_succ, List.replicate_zero, List.set_cons_zero, List.set_cons_succ, List.length_nil, List.length_cons, Nat.zero_add, Nat.reduceAdd, List.nil_append, List.cons_append]
          refine go_ifeqN e0_545 (tg := 552) (by decide) (by decide) ?_
          refine go_iconst e0_548 (x := 1) rfl ?_
          refine go_goto e0_549 (tg := 553) (by decide) ?_
          refine go_istore_17 e0_553 rfl ?_
          refine go_iload e0_555 rfl ?_
          refine go_ifeqN e0_557 (tg := 569) (by decide) (by decide) ?_
          refine go_iload e0_560 rfl ?_
          refine go_ifeqN e0_562 (tg := 569) (by decide) (by decide) ?_
          refine go_iconst e0_565 (x := 1) rfl ?_
          refine go_goto e0_566 (tg := 570) (by decide) ?_
          refine go_zreturn e0_570 rfl (by decide) (by decide) (by decide) ?_
          exact rfl
    have J4 : ∀ (q1 : Int32) (ps : List Value) (k9 : Int32) (hq1 : ¬ q1 = 0), Go C 173 [.val (.int i0), .val (.int i1), .val (.int i2), .val (.int i3), .val (.int 2), .val (.int 1), .val (.int c6), .val (.ref 0), .val (.ref 1), .val (.int k9), .unset, .unset, .unset, .unset, .unset, .unset, .unset, .unset] [] [ar .int ps, ar .int [.int q1, .int 0, .int 0, .int 0]] 2 8 := by
      intro q1 ps k9 hq1
      refine go_iload e0_173 rfl ?_
      refine go_iconst e0_175 (x := 2) rfl ?_
      refine go_icltY e0_176 (tg := 197) (by decide) (by decide) ?_
      refine go_iconst e0_197 (x := 0) rfl ?_
      refine go_istore_10 e0_198 rfl ?_
      refine go_iload e0_200 rfl ?_
      refine go_newarray e0_202 (wd 1 rfl) (k := 2) rfl (vs := [.int 0, .int 0]) rfl (cap := 2) (by decide) (by decide) (by decide) (by decide) ?_
      simp only [List.replicate_succ, List.replicate_zero, List.set_cons_zero, List.set_cons_succ, List.length_nil, List.length_cons, Nat.zero_add, Nat.reduceAdd, List.nil_append, List.cons_append]
      refine go_astore_11 e0_204 rfl rfl ?_
      refine go_aload e0_206 rfl rfl ?_
      refine go_iconst e0_208 (x := 0) rfl ?_
      refine go_iconst e0_209 (x := 0) rfl ?_
      refine go_iastore e0_210 rfl (k := 0) (by decide) (Nat.le_of_ble_eq_true rfl) ?_
      simp only [List.replicate_succ, List.replicate_zero, List.set_cons_zero, List.set_cons_succ, List.length_nil, List.length_cons, Nat.zero_add, Nat.reduceAdd, List.nil_append, List.cons_append]
      refine go_aload e0_211 rfl rfl ?_
      refine go_aload e0_213 rfl rfl ?_
      refine go_iload e0_215 rfl ?_
      refine go_iconst e0_217 (x := 0) rfl ?_
      refine go_iload e0_218 rfl ?_
      refine go_staticV_5 e0_220 (wd 6 rfl) (wd 7 rfl) (wd 8 rfl) (wd 4 rfl) hy_1 pd_8 rfl (c_put1 hw (i := 0) (m0 := 1) (x0 := q1) rfl rfl (by decide) (by decide) (by decide) (by decide) (Nat.le_of_ble_eq_true rfl) (fun _ => rfl) (fun z => absurd rfl z)) rfl 0 rfl (by decide) (by decide) (by decide) (by decide) ?_
      rintro _ rfl
      try simp only [List.replicate_succ, List.replicate_zero, List.set_cons_zero, List.set_cons_succ, List.length_nil, List.length_cons, Nat.zero_add, Nat.reduceAdd, List.nil_append, List.cons_append]
      refine go_aload e0_223 rfl rfl ?_
      refine go_aload e0_225 rfl rfl ?_
      refine go_iload e0_227 rfl ?_
      refine go_iconst e0_229 (x := 1) rfl ?_
      refine go_iload e0_230 rfl ?_
      refine go_staticV_5 e0_232 (wd 6 rfl) (wd 7 rfl) (wd 8 rfl) (wd 4 rfl) hy_1 pd_8 rfl (c_put0 hw (i := 1) (m0 := 1) (by decide) (by decide) (by decide)) rfl 0 rfl (by decide) (by decide) (by decide) (by decide) ?_
      rintro _ rfl
      try simp only [List.replicate_succ, List.replicate_zero, List.set_cons_zero, List.set_cons_succ, List.length_nil, List.length_cons, Nat.zero_add, Nat.reduceAdd, List.nil_append, List.cons_append]
      refine go_aload e0_235 rfl rfl ?_
      refine go_aload e0_237 rfl rfl ?_
      refine go_iload e0_239 rfl ?_
      refine go_iconst e0_241 (x := 2) rfl ?_
      refine go_iload e0_242 rfl ?_
      refine go_staticV_5 e0_244 (wd 6 rfl) (wd 7 rfl) (wd 8 rfl) (wd 4 rfl) hy_1 pd_8 rfl (c_put0 hw (i := 2) (m0 := 1) (by decide) (by decide) (by decide)) rfl 0 rfl (by decide) (by decide) (by decide) (by decide) ?_
      rintro _ rfl
      try simp only [List.replicate_succ, List.replicate_zero, List.set_cons_zero, List.set_cons_succ, List.length_nil, List.length_cons, Nat.zero_add, Nat.reduceAdd, List.nil_append, List.cons_append]
      refine go_aload e0_247 rfl rfl ?_
      refine go_aload e0_249 rfl rfl ?_
      refine go_iload e0_251 rfl ?_
      refine go_iconst e0_253 (x := 3) rfl ?_
      refine go_iload e0_254 rfl ?_
      refine go_staticV_5 e0_256 (wd 6 rfl) (wd 7 rfl) (wd 8 rfl) (wd 4 rfl) hy_1 pd_8 rfl (c_put0 hw (i := 3) (m0 := 1) (by decide) (by decide) (by decide)) rfl 0 rfl (by decide) (by decide) (by decide) (by decide) ?_
      rintro _ rfl
      try simp only [List.replicate_succ, List.replicate_zero, List.set_cons_zero, List.set_cons_succ, List.length_nil, List.length_cons, Nat.zero_add, Nat.reduceAdd, List.nil_append, List.cons_append]
      exact J5 q1 _ _ _ _ hq1 
    have J3 : ∀ (p0 p1 p2 p3 : Int32), D4 p0 p1 p2 p3 → Go C 89 [.val (.int i0), .val (.int i1), .val (.int i2), .val (.int i3), .val (.int 2), .val (.int 1), .val (.int c6), .val (.ref 0), .val (.ref 1), .val (.int 0), .unset, .unset, .unset, .unset, .unset, .unset, .unset, .unset] [] [ar .int [.int p0, .int p1, .int p2, .int p3], ar .int [.int 0, .int 0, .int 0, .int 0]] 2 8 := by
      intro p0 p1 p2 p3 hD
      unfold D4 at hD
      have km : (1 : Int32).toInt = 1 := rfl
      refine go_aload e0_89 rfl rfl ?_
      refine go_iconst e0_91 (x := 0) rfl ?_
      refine go_iaload e0_92 rfl (k := 0) (by decide) rfl ?_
      refine go_iload e0_93 rfl ?_
      refine go_icgt e0_95 (tg := 110) (by decide) ?_ ?_
      · intro c95
        refine go_aload e0_110 rfl rfl ?_
        refine go_iconst e0_112 (x := 1) rfl ?_
        refine go_iaload e0_113 rfl (k := 1) (by decide) rfl ?_
        refine go_iload e0_114 rfl ?_
        refine go_icgt e0_116 (tg := 131) (by decide) ?_ ?_
        · intro c116
          refine go_aload e0_131 rfl rfl ?_
          refine go_iconst e0_133 (x := 2) rfl ?_
          refine go_iaload e0_134 rfl (k := 2) (by decide) rfl ?_
          refine go_iload e0_135 rfl ?_
          refine go_icgt e0_137 (tg := 152) (by decide) ?_ ?_
          · intro c137
            refine go_aload e0_152 rfl rfl ?_
            refine go_iconst e0_154 (x := 3) rfl ?_
            refine go_iaload e0_155 rfl (k := 3) (by decide) rfl ?_
            refine go_iload e0_156 rfl ?_
            refine go_icgt e0_158 (tg := 173) (by decide) ?_ ?_
            · intro c158
              exfalso; omega
            · intro c158
              refine go_aload e0_161 rfl rfl ?_
              refine go_iload e0_163 rfl ?_
              refine go_aload e0_165 rfl rfl ?_
              refine go_iconst e0_167 (x := 3) rfl ?_
              refine go_iaload e0_168 rfl (k := 3) (by decide) rfl ?_
              refine go_iastore e0_169 rfl (k := 0) (by decide) (Nat.le_of_ble_eq_true rfl) ?_
              simp only [List.replicate_succ, List.replicate_zero, List.set_cons_zero, List.set_cons_succ, List.length_nil, List.length_cons, Nat.zero_add, Nat.reduceAdd, List.nil_append, List.cons_append]
              refine go_iinc_9 e0_170 (z := 1) rfl ?_
              exact J4 p3 _ _ (own_ne0 (by omega)) 
          · intro c137
            refine go_aload e0_140 rfl rfl ?_
            refine go_iload e0_142 rfl ?_
            refine go_aload e0_144 rfl rfl ?_
            refine go_iconst e0_146 (x := 2) rfl ?_
            refine go_iaload e0_147 rfl (k := 2) (by decide) rfl ?_
            refine go_iastore e0_148 rfl (k := 0) (by decide) (Nat.le_of_ble_eq_true rfl) ?_
            simp only [List.replicate_succ, List.replicate_zero, List.set_cons_zero, List.set_cons_succ, List.length_nil, List.length_cons, Nat.zero_add, Nat.reduceAdd, List.nil_append, List.cons_append]
            refine go_iinc_9 e0_149 (z := 1) rfl ?_
            refine go_aload e0_152 rfl rfl ?_
            refine go_iconst e0_154 (x := 3) rfl ?_
            refine go_iaload e0_155 rfl (k := 3) (by decide) rfl ?_
            refine go_iload e0_156 rfl ?_
            refine go_icgt e0_158 (tg := 173) (by decide) ?_ ?_
            · intro c158
              exact J4 p2 _ _ (own_ne0 (by omega)) 
            · intro c158
              refine go_aload e0_161 rfl rfl ?_
              refine go_iload e0_163 rfl ?_
              refine go_aload e0_165 rfl rfl ?_
              refine go_iconst e0_167 (x := 3) rfl ?_
              refine go_iaload e0_168 rfl (k := 3) (by decide) rfl ?_
              refine go_iastore e0_169 rfl (k := 1) (by decide) (Nat.le_of_ble_eq_true rfl) ?_
              simp only [List.replicate_succ, List.replicate_zero, List.set_cons_zero, List.set_cons_succ, List.length_nil, List.length_cons, Nat.zero_add, Nat.reduceAdd, List.nil_append, List.cons_append]
              refine go_iinc_9 e0_170 (z := 1) rfl ?_
              exfalso; omega
        · intro c116
          refine go_aload e0_119 rfl rfl ?_
          refine go_iload e0_121 rfl ?_
          refine go_aload e0_123 rfl rfl ?_
          refine go_iconst e0_125 (x := 1) rfl ?_
          refine go_iaload e0_126 rfl (k := 1) (by decide) rfl ?_
          refine go_iastore e0_127 rfl (k := 0) (by decide) (Nat.le_of_ble_eq_true rfl) ?_
          simp only [List.replicate_succ, List.replicate_zero, List.set_cons_zero, List.set_cons_succ, List.length_nil, List.length_cons, Nat.zero_add, Nat.reduceAdd, List.nil_append, List.cons_append]
          refine go_iinc_9 e0_128 (z := 1) rfl ?_
          refine go_aload e0_131 rfl rfl ?_
          refine go_iconst e0_133 (x := 2) rfl ?_
          refine go_iaload e0_134 rfl (k := 2) (by decide) rfl ?_
          refine go_iload e0_135 rfl ?_
          refine go_icgt e0_137 (tg := 152) (by decide) ?_ ?_
          · intro c137
            refine go_aload e0_152 rfl rfl ?_
            refine go_iconst e0_154 (x := 3) rfl ?_
            refine go_iaload e0_155 rfl (k := 3) (by decide) rfl ?_
            refine go_iload e0_156 rfl ?_
            refine go_icgt e0_158 (tg := 173) (by decide) ?_ ?_
            · intro c158
              exact J4 p1 _ _ (own_ne0 (by omega)) 
            · intro c158
              refine go_aload e0_161 rfl rfl ?_
              refine go_iload e0_163 rfl ?_
              refine go_aload e0_165 rfl rfl ?_
              refine go_iconst e0_167 (x := 3) rfl ?_
              refine go_iaload e0_168 rfl (k := 3) (by decide) rfl ?_
              refine go_iastore e0_169 rfl (k := 1) (by decide) (Nat.le_of_ble_eq_true rfl) ?_
              simp only [List.replicate_succ, List.replicate_zero, List.set_cons_zero, List.set_cons_succ, List.length_nil, List.length_cons, Nat.zero_add, Nat.reduceAdd, List.nil_append, List.cons_append]
              refine go_iinc_9 e0_170 (z := 1) rfl ?_
              exfalso; omega
          · intro c137
            refine go_aload e0_140 rfl rfl ?_
            refine go_iload e0_142 rfl ?_
            refine go_aload e0_144 rfl rfl ?_
            refine go_iconst e0_146 (x := 2) rfl ?_
            refine go_iaload e0_147 rfl (k := 2) (by decide) rfl ?_
            refine go_iastore e0_148 rfl (k := 1) (by decide) (Nat.le_of_ble_eq_true rfl) ?_
            simp only [List.replicate_succ, List.replicate_zero, List.set_cons_zero, List.set_cons_succ, List.length_nil, List.length_cons, Nat.zero_add, Nat.reduceAdd, List.nil_append, List.cons_append]
            refine go_iinc_9 e0_149 (z := 1) rfl ?_
            refine go_aload e0_152 rfl rfl ?_
            refine go_iconst e0_154 (x := 3) rfl ?_
            refine go_iaload e0_155 rfl (k := 3) (by decide) rfl ?_
            refine go_iload e0_156 rfl ?_
            refine go_icgt e0_158 (tg := 173) (by decide) ?_ ?_
            · intro c158
              exfalso; omega
            · intro c158
              refine go_aload e0_161 rfl rfl ?_
              refine go_iload e0_163 rfl ?_
              refine go_aload e0_165 rfl rfl ?_
              refine go_iconst e0_167 (x := 3) rfl ?_
              refine go_iaload e0_168 rfl (k := 3) (by decide) rfl ?_
              refine go_iastore e0_169 rfl (k := 2) (by decide) (Nat.le_of_ble_eq_true rfl) ?_
              simp only [List.replicate_succ, List.replicate_zero, List.set_cons_zero, List.set_cons_succ, List.length_nil, List.length_cons, Nat.zero_add, Nat.reduceAdd, List.nil_append, List.cons_append]
              refine go_iinc_9 e0_170 (z := 1) rfl ?_
              exfalso; omega
      · intro c95
        refine go_aload e0_98 rfl rfl ?_
        refine go_iload e0_100 rfl ?_
        refine go_aload e0_102 rfl rfl ?_
        refine go_iconst e0_104 (x := 0) rfl ?_
        refine go_iaload e0_105 rfl (k := 0) (by decide) rfl ?_
        refine go_iastore e0_106 rfl (k := 0) (by decide) (Nat.le_of_ble_eq_true rfl) ?_
        simp only [List.replicate_succ, List.replicate_zero, List.set_cons_zero, List.set_cons_succ, List.length_nil, List.length_cons, Nat.zero_add, Nat.reduceAdd, List.nil_append, List.cons_append]
        refine go_iinc_9 e0_107 (z := 1) rfl ?_
        refine go_aload e0_110 rfl rfl ?_
        refine go_iconst e0_112 (x := 1) rfl ?_
        refine go_iaload e0_113 rfl (k := 1) (by decide) rfl ?_
        refine go_iload e0_114 rfl ?_
        refine go_icgt e0_116 (tg := 131) (by decide) ?_ ?_
        · intro c116
          refine go_aload e0_131 rfl rfl ?_
          refine go_iconst e0_133 (x := 2) rfl ?_
          refine go_iaload e0_134 rfl (k := 2) (by decide) rfl ?_
          refine go_iload e0_135 rfl ?_
          refine go_icgt e0_137 (tg := 152) (by decide) ?_ ?_
          · intro c137
            refine go_aload e0_152 rfl rfl ?_
            refine go_iconst e0_154 (x := 3) rfl ?_
            refine go_iaload e0_155 rfl (k := 3) (by decide) rfl ?_
            refine go_iload e0_156 rfl ?_
            refine go_icgt e0_158 (tg := 173) (by decide) ?_ ?_
            · intro c158
              exact J4 p0 _ _ (own_ne0 (by omega)) 
            · intro c158
              refine go_aload e0_161 rfl rfl ?_
              refine go_iload e0_163 rfl ?_
              refine go_aload e0_165 rfl rfl ?_
              refine go_iconst e0_167 (x := 3) rfl ?_
              refine go_iaload e0_168 rfl (k := 3) (by decide) rfl ?_
              refine go_iastore e0_169 rfl (k := 1) (by decide) (Nat.le_of_ble_eq_true rfl) ?_
              simp only [List.replicate_succ, List.replicate_zero, List.set_cons_zero, List.set_cons_succ, List.length_nil, List.length_cons, Nat.zero_add, Nat.reduceAdd, List.nil_append, List.cons_append]
              refine go_iinc_9 e0_170 (z := 1) rfl ?_
              exfalso; omega
          · intro c137
            refine go_aload e0_140 rfl rfl ?_
            refine go_iload e0_142 rfl ?_
            refine go_aload e0_144 rfl rfl ?_
            refine go_iconst e0_146 (x := 2) rfl ?_
            refine go_iaload e0_147 rfl (k := 2) (by decide) rfl ?_
            refine go_iastore e0_148 rfl (k := 1) (by decide) (Nat.le_of_ble_eq_true rfl) ?_
            simp only [List.replicate_succ, List.replicate_zero, List.set_cons_zero, List.set_cons_succ, List.length_nil, List.length_cons, Nat.zero_add, Nat.reduceAdd, List.nil_append, List.cons_append]
            refine go_iinc_9 e0_149 (z := 1) rfl ?_
            refine go_aload e0_152 rfl rfl ?_
            refine go_iconst e0_154 (x := 3) rfl ?_
            refine go_iaload e0_155 rfl (k := 3) (by decide) rfl ?_
            refine go_iload e0_156 rfl ?_
            refine go_icgt e0_158 (tg := 173) (by decide) ?_ ?_
            · intro c158
              exfalso; omega
            · intro c158
              refine go_aload e0_161 rfl rfl ?_
              refine go_iload e0_163 rfl ?_
              refine go_aload e0_165 rfl rfl ?_
              refine go_iconst e0_167 (x := 3) rfl ?_
              refine go_iaload e0_168 rfl (k := 3) (by decide) rfl ?_
              refine go_iastore e0_169 rfl (k := 2) (by decide) (Nat.le_of_ble_eq_true rfl) ?_
              simp only [List.replicate_succ, List.replicate_zero, List.set_cons_zero, List.set_cons_succ, List.length_nil, List.length_cons, Nat.zero_add, Nat.reduceAdd, List.nil_append, List.cons_append]
              refine go_iinc_9 e0_170 (z := 1) rfl ?_
              exfalso; omega
        · intro c116
          refine go_aload e0_119 rfl rfl ?_
          refine go_iload e0_121 rfl ?_
          refine go_aload e0_123 rfl rfl ?_
          refine go_iconst e0_125 (x := 1) rfl ?_
          refine go_iaload e0_126 rfl (k := 1) (by decide) rfl ?_
          refine go_iastore e0_127 rfl (k := 1) (by decide) (Nat.le_of_ble_eq_true rfl) ?_
          simp only [List.replicate_succ, List.replicate_zero, List.set_cons_zero, List.set_cons_succ, List.length_nil, List.length_cons, Nat.zero_add, Nat.reduceAdd, List.nil_append, List.cons_append]
          refine go_iinc_9 e0_128 (z := 1) rfl ?_
          refine go_aload e0_131 rfl rfl ?_
          refine go_iconst e0_133 (x := 2) rfl ?_
          refine go_iaload e0_134 rfl (k := 2) (by decide) rfl ?_
          refine go_iload e0_135 rfl ?_
          refine go_icgt e0_137 (tg := 152) (by decide) ?_ ?_
          · intro c137
            refine go_aload e0_152 rfl rfl ?_
            refine go_iconst e0_154 (x := 3) rfl ?_
            refine go_iaload e0_155 rfl (k := 3) (by decide) rfl ?_
            refine go_iload e0_156 rfl ?_
            refine go_icgt e0_158 (tg := 173) (by decide) ?_ ?_
            · intro c158
              exfalso; omega
            · intro c158
              refine go_aload e0_161 rfl rfl ?_
              refine go_iload e0_163 rfl ?_
              refine go_aload e0_165 rfl rfl ?_
              refine go_iconst e0_167 (x := 3) rfl ?_
              refine go_iaload e0_168 rfl (k := 3) (by decide) rfl ?_
              refine go_iastore e0_169 rfl (k := 2) (by decide) (Nat.le_of_ble_eq_true rfl) ?_
              simp only [List.replicate_succ, List.replicate_zero, List.set_cons_zero, List.set_cons_succ, List.length_nil, List.length_cons, Nat.zero_add, Nat.reduceAdd, List.nil_append, List.cons_append]
              refine go_iinc_9 e0_170 (z := 1) rfl ?_
              exfalso; omega
          · intro c137
            refine go_aload e0_140 rfl rfl ?_
            refine go_iload e0_142 rfl ?_
            refine go_aload e0_144 rfl rfl ?_
            refine go_iconst e0_146 (x := 2) rfl ?_
            refine go_iaload e0_147 rfl (k := 2) (by decide) rfl ?_
            refine go_iastore e0_148 rfl (k := 2) (by decide) (Nat.le_of_ble_eq_true rfl) ?_
            simp only [List.replicate_succ, List.replicate_zero, List.set_cons_zero, List.set_cons_succ, List.length_nil, List.length_cons, Nat.zero_add, Nat.reduceAdd, List.nil_append, List.cons_append]
            refine go_iinc_9 e0_149 (z := 1) rfl ?_
            refine go_aload e0_152 rfl rfl ?_
            refine go_iconst e0_154 (x := 3) rfl ?_
            refine go_iaload e0_155 rfl (k := 3) (by decide) rfl ?_
            refine go_iload e0_156 rfl ?_
            refine go_icgt e0_158 (tg := 173) (by decide) ?_ ?_
            · intro c158
              exfalso; omega
            · intro c158
              refine go_aload e0_161 rfl rfl ?_
              refine go_iload e0_163 rfl ?_
              refine go_aload e0_165 rfl rfl ?_
              refine go_iconst e0_167 (x := 3) rfl ?_
              refine go_iaload e0_168 rfl (k := 3) (by decide) rfl ?_
              refine go_iastore e0_169 rfl (k := 3) (by decide) (Nat.le_of_ble_eq_true rfl) ?_
              simp only [List.replicate_succ, List.replicate_zero, List.set_cons_zero, List.set_cons_succ, List.length_nil, List.length_cons, Nat.zero_add, Nat.reduceAdd, List.nil_append, List.cons_append]
              refine go_iinc_9 e0_170 (z := 1) rfl ?_
              exfalso; omega
    have J81 : ∀ (p0 p1 p2 p3 : Int32), D4 p0 p1 p2 p3 → Go C 81 [.val (.int i0), .val (.int i1), .val (.int i2), .val (.int i3), .val (.int 2), .val (.int 1), .val (.int c6), .val (.ref 0), .unset, .unset, .unset, .unset, .unset, .unset, .unset, .unset, .unset, .unset] [] [ar .int [.int p0, .int p1, .int p2, .int p3]] 1 4 := by
      intro p0 p1 p2 p3 hD
      refine go_iconst e0_81 (x := 4) rfl ?_
      refine go_newarray e0_82 (wd 1 rfl) (k := 4) rfl (vs := [.int 0, .int 0, .int 0, .int 0]) rfl (cap := 4) (by decide) (by decide) (by decide) (by decide) ?_
      simp only [List.replicate_succ, List.replicate_zero, List.set_cons_zero, List.set_cons_succ, List.length_nil, List.length_cons, Nat.zero_add, Nat.reduceAdd, List.nil_append, List.cons_append]
      refine go_astore_8 e0_84 rfl rfl ?_
      refine go_iconst e0_86 (x := 0) rfl ?_
      refine go_istore_9 e0_87 rfl ?_
      exact J3 _ _ _ _ hD
    have J2 : ∀ (p0 p1 p2 p3 : Int32), D4 p0 p1 p2 p3 → Go C 68 [.val (.int i0), .val (.int i1), .val (.int i2), .val (.int i3), .val (.int 2), .val (.int 1), .val (.int c6), .val (.ref 0), .unset, .unset, .unset, .unset, .unset, .unset, .unset, .unset, .unset, .unset] [] [ar .int [.int p0, .int p1, .int p2, .int p3]] 1 4 := by
      intro p0 p1 p2 p3 hD
      refine go_aload e0_68 rfl rfl ?_
      refine go_iconst e0_70 (x := 1) rfl ?_
      refine go_iload e0_71 rfl ?_
      refine go_bipush e0_73 (x := 12) rfl ?_
      refine go_idiv e0_75 (by decide) ?_
      refine go_iconst e0_76 (x := 2) rfl ?_
      refine go_irem e0_77 (by decide) ?_
      have he : (c6 / 12 % 2).toInt = 0 ∨ (c6 / 12 % 2).toInt = 1 := by
        have h0 := (c_idiv c6 12 12 (by decide) (by decide)).1 hc0
        have h1 := (c_irem (c6 / 12) 2 2 (by decide)).1 (by omega)
        omega
      rcases he with e | e
      · refine go_staticV_3 e0_78 (wd 2 rfl) (wd 3 rfl) (wd 5 rfl) (wd 4 rfl) hy_1 pd_9 rfl (c_swap hw (i := 1) (j := 0) rfl (by decide) e rfl rfl) rfl 0 rfl (by decide) (by decide) (by decide) (by decide) ?_
        rintro _ rfl
        try simp only [List.replicate_succ, List.replicate_zero, List.set_cons_zero, List.set_cons_succ, List.length_nil, List.length_cons, Nat.zero_add, Nat.reduceAdd, List.nil_append, List.cons_append]
        exact J81 p1 p0 p2 p3 (by unfold D4 at hD ⊢; omega)
      · refine go_staticV_3 e0_78 (wd 2 rfl) (wd 3 rfl) (wd 5 rfl) (wd 4 rfl) hy_1 pd_9 rfl (c_swap hw (i := 1) (j := 1) rfl (by decide) e rfl rfl) rfl 0 rfl (by decide) (by decide) (by decide) (by decide) ?_
        rintro _ rfl
        try simp only [List.replicate_succ, List.replicate_zero, List.set_cons_zero, List.set_cons_succ, List.length_nil, List.length_cons, Nat.zero_add, Nat.reduceAdd, List.nil_append, List.cons_append]
        exact J81 p0 p1 p2 p3 (by unfold D4 at hD ⊢; omega)
    have J1 : ∀ (p0 p1 p2 p3 : Int32), D4 p0 p1 p2 p3 → Go C 56 [.val (.int i0), .val (.int i1), .val (.int i2), .val (.int i3), .val (.int 2), .val (.int 1), .val (.int c6), .val (.ref 0), .unset, .unset, .unset, .unset, .unset, .unset, .unset, .unset, .unset, .unset] [] [ar .int [.int p0, .int p1, .int p2, .int p3]] 1 4 := by
      intro p0 p1 p2 p3 hD
      refine go_aload e0_56 rfl rfl ?_
      refine go_iconst e0_58 (x := 2) rfl ?_
      refine go_iload e0_59 rfl ?_
      refine go_iconst e0_61 (x := 4) rfl ?_
      refine go_idiv e0_62 (by decide) ?_
      refine go_iconst e0_63 (x := 3) rfl ?_
      refine go_irem e0_64 (by decide) ?_
      have he : (c6 / 4 % 3).toInt = 0 ∨ (c6 / 4 % 3).toInt = 1 ∨ (c6 / 4 % 3).toInt = 2 := by
        have h0 := (c_idiv c6 4 4 (by decide) (by decide)).1 hc0
        have h1 := (c_irem (c6 / 4) 3 3 (by decide)).1 (by omega)
        omega
      rcases he with e | e | e
      · refine go_staticV_3 e0_65 (wd 2 rfl) (wd 3 rfl) (wd 5 rfl) (wd 4 rfl) hy_1 pd_9 rfl (c_swap hw (i := 2) (j := 0) rfl (by decide) e rfl rfl) rfl 0 rfl (by decide) (by decide) (by decide) (by decide) ?_
        rintro _ rfl
        try simp only [List.replicate_succ, List.replicate_zero, List.set_cons_zero, List.set_cons_succ, List.length_nil, List.length_cons, Nat.zero_add, Nat.reduceAdd, List.nil_append, List.cons_append]
        exact J2 p2 p1 p0 p3 (by unfold D4 at hD ⊢; omega)
      · refine go_staticV_3 e0_65 (wd 2 rfl) (wd 3 rfl) (wd 5 rfl) (wd 4 rfl) hy_1 pd_9 rfl (c_swap hw (i := 2) (j := 1) rfl (by decide) e rfl rfl) rfl 0 rfl (by decide) (by decide) (by decide) (by decide) ?_
        rintro _ rfl
        try simp only [List.replicate_succ, List.replicate_zero, List.set_cons_zero, List.set_cons_succ, List.length_nil, List.length_cons, Nat.zero_add, Nat.reduceAdd, List.nil_append, List.cons_append]
        exact J2 p0 p2 p1 p3 (by unfold D4 at hD ⊢; omega)
      · refine go_staticV_3 e0_65 (wd 2 rfl) (wd 3 rfl) (wd 5 rfl) (wd 4 rfl) hy_1 pd_9 rfl (c_swap hw (i := 2) (j := 2) rfl (by decide) e rfl rfl) rfl 0 rfl (by decide) (by decide) (by decide) (by decide) ?_
        rintro _ rfl
        try simp only [List.replicate_succ, List.replicate_zero, List.set_cons_zero, List.set_cons_succ, List.length_nil, List.length_cons, Nat.zero_add, Nat.reduceAdd, List.nil_append, List.cons_append]
        exact J2 p0 p1 p2 p3 (by unfold D4 at hD ⊢; omega)
    refine go_iconst e0_25 (x := 4) rfl ?_
    refine go_newarray e0_26 (wd 1 rfl) (k := 4) rfl (vs := [.int 0, .int 0, .int 0, .int 0]) rfl (cap := 4) (by decide) (by decide) (by decide) (by decide) ?_
    simp only [List.replicate_succ, List.replicate_zero, List.set_cons_zero, List.set_cons_succ, List.length_nil, List.length_cons, Nat.zero_add, Nat.reduceAdd, List.nil_append, List.cons_append]
    refine go_dup e0_28 rfl ?_
    refine go_iconst e0_29 (x := 0) rfl ?_
    refine go_iconst e0_30 (x := 1) rfl ?_
    refine go_iastore e0_31 rfl (k := 0) (by decide) (Nat.le_of_ble_eq_true rfl) ?_
    simp only [List.replicate_succ, List.replicate_zero, List.set_cons_zero, List.set_cons_succ, List.length_nil, List.length_cons, Nat.zero_add, Nat.reduceAdd, List.nil_append, List.cons_append]
    refine go_dup e0_32 rfl ?_
    refine go_iconst e0_33 (x := 1) rfl ?_
    refine go_iconst e0_34 (x := 2) rfl ?_
    refine go_iastore e0_35 rfl (k := 1) (by decide) (Nat.le_of_ble_eq_true rfl) ?_
    simp only [List.replicate_succ, List.replicate_zero, List.set_cons_zero, List.set_cons_succ, List.length_nil, List.length_cons, Nat.zero_add, Nat.reduceAdd, List.nil_append, List.cons_append]
    refine go_dup e0_36 rfl ?_
    refine go_iconst e0_37 (x := 2) rfl ?_
    refine go_iconst e0_38 (x := 3) rfl ?_
    refine go_iastore e0_39 rfl (k := 2) (by decide) (Nat.le_of_ble_eq_true rfl) ?_
    simp only [List.replicate_succ, List.replicate_zero, List.set_cons_zero, List.set_cons_succ, List.length_nil, List.length_cons, Nat.zero_add, Nat.reduceAdd, List.nil_append, List.cons_append]
    refine go_dup e0_40 rfl ?_
    refine go_iconst e0_41 (x := 3) rfl ?_
    refine go_iconst e0_42 (x := 4) rfl ?_
    refine go_iastore e0_43 rfl (k := 3) (by decide) (Nat.le_of_ble_eq_true rfl) ?_
    simp only [List.replicate_succ, List.replicate_zero, List.set_cons_zero, List.set_cons_succ, List.length_nil, List.length_cons, Nat.zero_add, Nat.reduceAdd, List.nil_append, List.cons_append]
    refine go_astore_7 e0_44 rfl rfl ?_
    refine go_aload e0_46 rfl rfl ?_
    refine go_iconst e0_48 (x := 3) rfl ?_
    refine go_iload e0_49 rfl ?_
    refine go_iconst e0_51 (x := 4) rfl ?_
    refine go_irem e0_52 (by decide) ?_
    have he : (c6 % 4).toInt = 0 ∨ (c6 % 4).toInt = 1 ∨ (c6 % 4).toInt = 2 ∨ (c6 % 4).toInt = 3 := by
      have h1 := (c_irem c6 4 4 (by decide)).1 hc0
      omega
    rcases he with e | e | e | e
    · refine go_staticV_3 e0_53 (wd 2 rfl) (wd 3 rfl) (wd 5 rfl) (wd 4 rfl) hy_1 pd_9 rfl (c_swap hw (i := 3) (j := 0) rfl (by decide) e rfl rfl) rfl 0 rfl (by decide) (by decide) (by decide) (by decide) ?_
      rintro _ rfl
      try simp only [List.replicate_succ, List.replicate_zero, List.set_cons_zero, List.set_cons_succ, List.length_nil, List.length_cons, Nat.zero_add, Nat.reduceAdd, List.nil_append, List.cons_append]
      exact J1 4 2 3 1 (by decide)
    · refine go_staticV_3 e0_53 (wd 2 rfl) (wd 3 rfl) (wd 5 rfl) (wd 4 rfl) hy_1 pd_9 rfl (c_swap hw (i := 3) (j := 1) rfl (by decide) e rfl rfl) rfl 0 rfl (by decide) (by decide) (by decide) (by decide) ?_
      rintro _ rfl
      try simp only [List.replicate_succ, List.replicate_zero, List.set_cons_zero, List.set_cons_succ, List.length_nil, List.length_cons, Nat.zero_add, Nat.reduceAdd, List.nil_append, List.cons_append]
      exact J1 1 4 3 2 (by decide)
    · refine go_staticV_3 e0_53 (wd 2 rfl) (wd 3 rfl) (wd 5 rfl) (wd 4 rfl) hy_1 pd_9 rfl (c_swap hw (i := 3) (j := 2) rfl (by decide) e rfl rfl) rfl 0 rfl (by decide) (by decide) (by decide) (by decide) ?_
      rintro _ rfl
      try simp only [List.replicate_succ, List.replicate_zero, List.set_cons_zero, List.set_cons_succ, List.length_nil, List.length_cons, Nat.zero_add, Nat.reduceAdd, List.nil_append, List.cons_append]
      exact J1 1 2 4 3 (by decide)
    · refine go_staticV_3 e0_53 (wd 2 rfl) (wd 3 rfl) (wd 5 rfl) (wd 4 rfl) hy_1 pd_9 rfl (c_swap hw (i := 3) (j := 3) rfl (by decide) e rfl rfl) rfl 0 rfl (by decide) (by decide) (by decide) (by decide) ?_
      rintro _ rfl
      try simp only [List.replicate_succ, List.replicate_zero, List.set_cons_zero, List.set_cons_succ, List.length_nil, List.length_cons, Nat.zero_add, Nat.reduceAdd, List.nil_append, List.cons_append]
      exact J1 1 2 3 4 (by decide)
  · obtain rfl : mm = 2 := hmm.trans (by decide)
    have J5 : ∀ (w1 w2 : Int32) (ps rs : List Value) (k9 v10 : Int32) (n1 : ¬ w1 = 0) (n2 : ¬ w2 = 0) (hlt : w1.toInt < w2.toInt), Go C 259 [.val (.int i0), .val (.int i1), .val (.int i2), .val (.int i3), .val (.int 3), .val (.int 2), .val (.int c6), .val (.ref 0), .val (.ref 1), .val (.int k9), .val (.int v10), .val (.ref 2), .unset, .unset, .unset, .unset, .unset, .unset] [] [ar .int ps, ar .int rs, ar .int [.int 0, .int w1, .int w2]] 3 11 := by
      intro w1 w2 ps rs k9 v10 n1 n2 hlt
      refine go_iloadN e0_259 rfl ?_
      refine go_ldc e0_260 (wd 0 rfl) ?_
      refine go_iand e0_262 ?_
      refine go_iload e0_263 rfl ?_
      refine go_irem e0_265 (by decide) ?_
      refine go_istoreX_12 e0_266 rfl ?_
      intro sx hsx
      have hcs : sx = 0 ∨ sx = 1 ∨ sx = 2 := by
        have e2 := (c_irem (i2 &&& 2147483647) 3 3 (by decide)).1 (c_and _ _ (by decide)).1
        have e3 : sx.toInt = 0 ∨ sx.toInt = 1 ∨ sx.toInt = 2 := by rw [hsx]; omega
        rcases e3 with e | e | e
        · exact Or.inl (Int32.toInt_inj.mp e)
        · exact Or.inr (Or.inl (Int32.toInt_inj.mp e))
        · exact Or.inr (Or.inr (Int32.toInt_inj.mp e))
      clear hsx
      rcases hcs with rfl | rfl | rfl
      · refine go_iloadN e0_268 rfl ?_
        refine go_iconst e0_269 (x := 1) rfl ?_
        refine go_iand e0_270 ?_
        refine go_ifeq e0_271 (tg := 278) (by decide) ?_ ?_
        · intro c271
          refine go_iconst e0_278 (x := 0) rfl ?_
          refine go_istore_13 e0_279 rfl ?_
          refine go_iload e0_281 rfl ?_
          refine go_newarray e0_283 (wd 1 rfl) (k := 3) rfl (vs := [.int 0, .int 0, .int 0]) rfl (cap := 3) (by decide) (by decide) (by decide) (by decide) ?_
          simp only [List.replicate_succ, List.replicate_zero, List.set_cons_zero, List.set_cons_succ, List.length_nil, List.length_cons, Nat.zero_add, Nat.reduceAdd, List.nil_append, List.cons_append]
          refine go_astore_14 e0_285 rfl rfl ?_
          refine go_aload e0_287 rfl rfl ?_
          refine go_aload e0_289 rfl rfl ?_
          refine go_iload e0_291 rfl ?_
          refine go_iload e0_293 rfl ?_
          refine go_iload e0_295 rfl ?_
          refine go_iconst e0_297 (x := 0) rfl ?_
          refine go_staticV_6 e0_298 (wd 9 rfl) (wd 10 rfl) (wd 11 rfl) (wd 4 rfl) hy_1 pd_4 rfl (c_place1 hw (n := 3) (s1 := 0) (i := 0) (K := 0) rfl rfl (by decide) (by decide) (by decide) (by decide) (by decide) (by decide) (by decide) rfl (Nat.le_of_ble_eq_true rfl)) rfl 0 rfl (by decide) (by decide) (by decide) (by decide) ?_
          rintro _ rfl
          try simp only [List.replicate_succ, List.replicate_zero, List.set_cons_zero, List.set_cons_succ, List.length_nil, List.length_cons, Nat.zero_add, Nat.reduceAdd, List.nil_append, List.cons_append]
          refine go_aload e0_301 rfl rfl ?_
          refine go_aload e0_303 rfl rfl ?_
          refine go_iload e0_305 rfl ?_
          refine go_iload e0_307 rfl ?_
          refine go_iload e0_309 rfl ?_
          refine go_iconst e0_311 (x := 1) rfl ?_
          refine go_staticV_6 e0_312 (wd 9 rfl) (wd 10 rfl) (wd 11 rfl) (wd 4 rfl) hy_1 pd_4 rfl (c_place1 hw (n := 3) (s1 := 0) (i := 1) (K := 2) rfl rfl (by decide) (by decide) (by decide) (by decide) (by decide) (by decide) (by decide) rfl (Nat.le_of_ble_eq_true rfl)) rfl 0 rfl (by decide) (by decide) (by decide) (by decide) ?_
          rintro _ rfl
          try simp only [List.replicate_succ, List.replicate_zero, List.set_cons_zero, List.set_cons_succ, List.length_nil, List.length_cons, Nat.zero_add, Nat.reduceAdd, List.nil_append, List.cons_append]
          refine go_aload e0_315 rfl rfl ?_
          refine go_aload e0_317 rfl rfl ?_
          refine go_iload e0_319 rfl ?_
          refine go_iload e0_321 rfl ?_
          refine go_iload e0_323 rfl ?_
          refine go_iconst e0_325 (x := 2) rfl ?_
          refine go_staticV_6 e0_326 (wd 9 rfl) (wd 10 rfl) (wd 11 rfl) (wd 4 rfl) hy_1 pd_4 rfl (c_place1 hw (n := 3) (s1 := 0) (i := 2) (K := 1) rfl rfl (by decide) (by decide) (by decide) (by decide) (by decide) (by decide) (by decide) rfl (Nat.le_of_ble_eq_true rfl)) rfl 0 rfl (by decide) (by decide) (by decide) (by decide) ?_
          rintro _ rfl
          try simp only [List.replicate_succ, List.replicate_zero, List.set_cons_zero, List.set_cons_succ, List.length_nil, List.length_cons, Nat.zero_add, Nat.reduceAdd, List.nil_append, List.cons_append]
          refine go_aload e0_329 rfl rfl ?_
          refine go_aload e0_331 rfl rfl ?_
          refine go_iload e0_333 rfl ?_
          refine go_iload e0_335 rfl ?_
          refine go_iload e0_337 rfl ?_
          refine go_iconst e0_339 (x := 3) rfl ?_
          refine go_staticV_6 e0_340 (wd 9 rfl) (wd 10 rfl) (wd 11 rfl) (wd 4 rfl) hy_1 pd_4 rfl (c_place0 hw (n := 3) (i := 3) (by decide) (by decide) (by decide)) rfl 0 rfl (by decide) (by decide) (by decide) (by decide) ?_
          rintro _ rfl
          try simp only [List.replicate_succ, List.replicate_zero, List.set_cons_zero, List.set_cons_succ, List.length_nil, List.length_cons, Nat.zero_add, Nat.reduceAdd, List.nil_append, List.cons_append]
          refine go_aload e0_343 rfl rfl ?_
          refine go_aload e0_345 rfl rfl ?_
          refine go_iload e0_347 rfl ?_
          refine go_iload e0_349 rfl ?_
          refine go_iload e0_351 rfl ?_
          refine go_iconst e0_353 (x := 4) rfl ?_
          refine go_staticV_6 e0_354 (wd 9 rfl) (wd 10 rfl) (wd 11 rfl) (wd 4 rfl) hy_1 pd_4 rfl (c_place0 hw (n := 3) (i := 4) (by decide) (by decide) (by decide)) rfl 0 rfl (by decide) (by decide) (by decide) (by decide) ?_
          rintro _ rfl
          try simp only [List.replicate_succ, List.replicate_zero, List.set_cons_zero, List.set_cons_succ, List.length_nil, List.length_cons, Nat.zero_add, Nat.reduceAdd, List.nil_append, List.cons_append]
          refine go_aload e0_357 rfl rfl ?_
          refine go_static_1 e0_359 (wd 15 rfl) (wd 16 rfl) (wd 18 rfl) (wd 17 rfl) hy_5 pd_6 rfl (c_norm hw (n := 3) (st := 0) (nn := 3) (va := w2) (vb := w1) rfl rfl (by decide) (by decide) (by intro v hv; simp only [List.mem_cons, List.not_mem_nil, or_false] at hv; rcases hv with rfl | rfl | rfl <;> exact ⟨_, rfl⟩) (by decide) rfl (fun j hj => absurd hj (Nat.not_lt_zero _)) rfl rfl) rfl 0 rfl (by decide) (by decide) (by decide) (by decide) ?_
          rintro _ _ ⟨rfl, out, rfl, hol, hout⟩
          rw [if_neg (by omega)] at hout
          have o0 : out[0]? = some (.int 0) := hout 0 (by decide)
          have o1 : out[1]? = some (.int w1) := hout 1 (by decide)
          have o2 : out[2]? = some (.int w2) := hout 2 (by decide)
          try simp only [List.replicate_succ, List.replicate_zero, List.set_cons_zero, List.set_cons_succ, List.length_nil, List.length_cons, Nat.zero_add, Nat.reduceAdd, List.nil_append, List.cons_append]
          refine go_astore_15 e0_362 rfl rfl ?_
          refine go_aload e0_364 rfl rfl ?_
          refine go_aload e0_366 rfl rfl ?_
          refine go_acmp e0_368 rfl rfl (same := false) (by decide) (tg := 379) (by decide) ?_
          show Go C 371 _ _ _ _ _
          refine go_aload e0_371 rfl rfl ?_
          refine go_len e0_373 rfl (n := 3) (by rw [hol]; decide) ?_
          refine go_iload e0_374 rfl ?_
          refine go_iceqY e0_376 (tg := 381) (by decide) rfl ?_
          refine go_aload e0_381 rfl rfl ?_
          refine go_aload e0_383 rfl rfl ?_
          refine go_iload e0_385 rfl ?_
          refine go_iconst e0_387 (x := 0) rfl ?_
          refine go_iconst e0_388 (x := 1) rfl ?_
          refine go_iconst e0_389 (x := 0) rfl ?_
          refine go_static_6 e0_390 (wd 19 rfl) (wd 20 rfl) (wd 21 rfl) (wd 4 rfl) hy_1 pd_7 rfl (c_same1 hw (n := 3) (s1 := 0) (i := 0) (K := 0) rfl rfl (by decide) (by decide) (by decide) (by decide) (by decide) (by decide) (by decide) rfl o0) rfl 0 rfl (by decide) (by decide) (by decide) (by decide) ?_
          rintro _ _ ⟨rfl, rfl⟩
          try simp only [List.replicate_succ, List.replicate_zero, List.set_cons_zero, List.set_cons_succ, List.length_nil, List.length_cons, Nat.zero_add, Nat.reduceAdd, List.nil_append, List.cons_append]
          refine go_ifeqN e0_393 (tg := 460) (by decide) (by decide) ?_
          refine go_aload e0_396 rfl rfl ?_
          refine go_aload e0_398 rfl rfl ?_
          refine go_iload e0_400 rfl ?_
          refine go_iconst e0_402 (x := 0) rfl ?_
          refine go_iconst e0_403 (x := 1) rfl ?_
          refine go_iconst e0_404 (x := 1) rfl ?_
          refine go_static_6 e0_405 (wd 19 rfl) (wd 20 rfl) (wd 21 rfl) (wd 4 rfl) hy_1 pd_7 rfl (c_same1 hw (n := 3) (s1 := 0) (i := 1) (K := 1) rfl rfl (by decide) (by decide) (by decide) (by decide) (by decide) (by decide) (by decide) rfl o1) rfl 0 rfl (by decide) (by decide) (by decide) (by decide) ?_
          rintro _ _ ⟨rfl, rfl⟩
          try simp only [List.replicate_succ, List.replicate_zero, List.set_cons_zero, List.set_cons_succ, List.length_nil, List.length_cons, Nat.zero_add, Nat.reduceAdd, List.nil_append, List.cons_append]
          refine go_ifeqN e0_408 (tg := 460) (by decide) (by decide) ?_
          refine go_aload e0_411 rfl rfl ?_
          refine go_aload e0_413 rfl rfl ?_
          refine go_iload e0_415 rfl ?_
          refine go_iconst e0_417 (x := 0) rfl ?_
          refine go_iconst e0_418 (x := 1) rfl ?_
          refine go_iconst e0_419 (x := 2) rfl ?_
          refine go_static_6 e0_420 (wd 19 rfl) (wd 20 rfl) (wd 21 rfl) (wd 4 rfl) hy_1 pd_7 rfl (c_same1 hw (n := 3) (s1 := 0) (i := 2) (K := 2) rfl rfl (by decide) (by decide) (by decide) (by decide) (by decide) (by decide) (by decide) rfl o2) rfl 0 rfl (by decide) (by decide) (by decide) (by decide) ?_
          rintro _ _ ⟨rfl, rfl⟩
          try simp only [List.replicate_succ, List.replicate_zero, List.set_cons_zero, List.set_cons_succ, List.length_nil, List.length_cons, Nat.zero_add, Nat.reduceAdd, List.nil_append, List.cons_append]
          refine go_ifeqN e0_423 (tg := 460) (by decide) (by decide) ?_
          refine go_aload e0_426 rfl rfl ?_
          refine go_aload e0_428 rfl rfl ?_
          refine go_iload e0_430 rfl ?_
          refine go_iconst e0_432 (x := 0) rfl ?_
          refine go_iconst e0_433 (x := 1) rfl ?_
          refine go_iconst e0_434 (x := 3) rfl ?_
          refine go_static_6 e0_435 (wd 19 rfl) (wd 20 rfl) (wd 21 rfl) (wd 4 rfl) hy_1 pd_7 rfl (c_same0 hw (n := 3) (i := 3) (by decide) (by decide) (by decide)) rfl 0 rfl (by decide) (by decide) (by decide) (by decide) ?_
          rintro _ _ ⟨rfl, rfl⟩
          try simp only [List.replicate_succ, List.replicate_zero, List.set_cons_zero, List.set_cons_succ, List.length_nil, List.length_cons, Nat.zero_add, Nat.reduceAdd, List.nil_append, List.cons_append]
          refine go_ifeqN e0_438 (tg := 460) (by decide) (by decide) ?_
          refine go_aload e0_441 rfl rfl ?_
          refine go_aload e0_443 rfl rfl ?_
          refine go_iload e0_445 rfl ?_
          refine go_iconst e0_447 (x := 0) rfl ?_
          refine go_iconst e0_448 (x := 1) rfl ?_
          refine go_iconst e0_449 (x := 4) rfl ?_
          refine go_static_6 e0_450 (wd 19 rfl) (wd 20 rfl) (wd 21 rfl) (wd 4 rfl) hy_1 pd_7 rfl (c_same0 hw (n := 3) (i := 4) (by decide) (by decide) (by decide)) rfl 0 rfl (by decide) (by decide) (by decide) (by decide) ?_
          rintro _ _ ⟨rfl, rfl⟩
          try simp only [List.replicate_succ, List.replicate_zero, List.set_cons_zero, List.set_cons_succ, List.length_nil, List.length_cons, Nat.zero_add, Nat.reduceAdd, List.nil_append, List.cons_append]
          refine go_ifeqN e0_453 (tg := 460) (by decide) (by decide) ?_
          refine go_iconst e0_456 (x := 1) rfl ?_
          refine go_goto e0_457 (tg := 461) (by decide) ?_
          refine go_istore_16 e0_461 rfl ?_
          refine go_aload e0_463 rfl rfl ?_
          refine go_aload e0_465 rfl rfl ?_
          refine go_iload e0_467 rfl ?_
          refine go_iload e0_469 rfl ?_
          refine go_iload e0_471 rfl ?_
          refine go_iconst e0_473 (x := 0) rfl ?_
          refine go_static_6 e0_474 (wd 19 rfl) (wd 20 rfl) (wd 21 rfl) (wd 4 rfl) hy_1 pd_7 rfl (c_same1 hw (n := 3) (s1 := 0) (i := 0) (K := 0) rfl rfl (by decide) (by decide) (by decide) (by decide) (by decide) (by decide) (by decide) rfl rfl) rfl 0 rfl (by decide) (by decide) (by decide) (by decide) ?_
          rintro _ _ ⟨rfl, rfl⟩
          try simp only [List.replicate_succ, List.replicate_zero, List.set_cons_zero, List.set_cons_succ, List.length_nil, List.length_cons, Nat.zero_add, Nat.reduceAdd, List.nil_append, List.cons_append]
          refine go_ifeqN e0_477 (tg := 552) (by decide) (by decide) ?_
          refine go_aload e0_480 rfl rfl ?_
          refine go_aload e0_482 rfl rfl ?_
          refine go_iload e0_484 rfl ?_
          refine go_iload e0_486 rfl ?_
          refine go_iload e0_488 rfl ?_
          refine go_iconst e0_490 (x := 1) rfl ?_
          refine go_static_6 e0_491 (wd 19 rfl) (wd 20 rfl) (wd 21 rfl) (wd 4 rfl) hy_1 pd_7 rfl (c_same1 hw (n := 3) (s1 := 0) (i := 1) (K := 2) rfl rfl (by decide) (by decide) (by decide) (by decide) (by decide) (by decide) (by decide) rfl rfl) rfl 0 rfl (by decide) (by decide) (by decide) (by decide) ?_
          rintro _ _ ⟨rfl, rfl⟩
          try simp only [List.replicate_succ, List.replicate_zero, List.set_cons_zero, List.set_cons_succ, List.length_nil, List.length_cons, Nat.zero_add, Nat.reduceAdd, List.nil_append, List.cons_append]
          refine go_ifeqN e0_494 (tg := 552) (by decide) (by decide) ?_
          refine go_aload e0_497 rfl rfl ?_
          refine go_aload e0_499 rfl rfl ?_
          refine go_iload e0_501 rfl ?_
          refine go_iload e0_503 rfl ?_
          refine go_iload e0_505 rfl ?_
          refine go_iconst e0_507 (x := 2) rfl ?_
          refine go_static_6 e0_508 (wd 19 rfl) (wd 20 rfl) (wd 21 rfl) (wd 4 rfl) hy_1 pd_7 rfl (c_same1 hw (n := 3) (s1 := 0) (i := 2) (K := 1) rfl rfl (by decide) (by decide) (by decide) (by decide) (by decide) (by decide) (by decide) rfl rfl) rfl 0 rfl (by decide) (by decide) (by decide) (by decide) ?_
          rintro _ _ ⟨rfl, rfl⟩
          try simp only [List.replicate_succ, List.replicate_zero, List.set_cons_zero, List.set_cons_succ, List.length_nil, List.length_cons, Nat.zero_add, Nat.reduceAdd, List.nil_append, List.cons_append]
          refine go_ifeqN e0_511 (tg := 552) (by decide) (by decide) ?_
          refine go_aload e0_514 rfl rfl ?_
          refine go_aload e0_516 rfl rfl ?_
          refine go_iload e0_518 rfl ?_
          refine go_iload e0_520 rfl ?_
          refine go_iload e0_522 rfl ?_
          refine go_iconst e0_524 (x := 3) rfl ?_
          refine go_static_6 e0_525 (wd 19 rfl) (wd 20 rfl) (wd 21 rfl) (wd 4 rfl) hy_1 pd_7 rfl (c_same0 hw (n := 3) (i := 3) (by decide) (by decide) (by decide)) rfl 0 rfl (by decide) (by decide) (by decide) (by decide) ?_
          rintro _ _ ⟨rfl, rfl⟩
          try simp only [List.replicate_succ, List.replicate_zero, List.set_cons_zero, List.set_cons_succ, List.length_nil, List.length_cons, Nat.zero_add, Nat.reduceAdd, List.nil_append, List.cons_append]
          refine go_ifeqN e0_528 (tg := 552) (by decide) (by decide) ?_
          refine go_aload e0_531 rfl rfl ?_
          refine go_aload e0_533 rfl rfl ?_
          refine go_iload e0_535 rfl ?_
          refine go_iload e0_537 rfl ?_
          refine go_iload e0_539 rfl ?_
          refine go_iconst e0_541 (x := 4) rfl ?_
          refine go_static_6 e0_542 (wd 19 rfl) (wd 20 rfl) (wd 21 rfl) (wd 4 rfl) hy_1 pd_7 rfl (c_same0 hw (n := 3) (i := 4) (by decide) (by decide) (by decide)) rfl 0 rfl (by decide) (by decide) (by decide) (by decide) ?_
          rintro _ _ ⟨rfl, rfl⟩
          try simp only [List.replicate_succ, List.replicate_zero, List.set_cons_zero, List.set_cons_succ, List.length_nil, List.length_cons, Nat.zero_add, Nat.reduceAdd, List.nil_append, List.cons_append]
          refine go_ifeqN e0_545 (tg := 552) (by decide) (by decide) ?_
          refine go_iconst e0_548 (x := 1) rfl ?_
          refine go_goto e0_549 (tg := 553) (by decide) ?_
          refine go_istore_17 e0_553 rfl ?_
          refine go_iload e0_555 rfl ?_
          refine go_ifeqN e0_557 (tg := 569) (by decide) (by decide) ?_
          refine go_iload e0_560 rfl ?_
          refine go_ifeqN e0_562 (tg := 569) (by decide) (by decide) ?_
          refine go_iconst e0_565 (x := 1) rfl ?_
          refine go_goto e0_566 (tg := 570) (by decide) ?_
          refine go_zreturn e0_570 rfl (by decide) (by decide) (by decide) ?_
          exact rfl
        · intro c271
          refine go_iconst e0_274 (x := 1) rfl ?_
          refine go_goto e0_275 (tg := 279) (by decide) ?_
          refine go_istore_13 e0_279 rfl ?_
          refine go_iload e0_281 rfl ?_
          refine go_newarray e0_283 (wd 1 rfl) (k := 3) rfl (vs := [.int 0, .int 0, .int 0]) rfl (cap := 3) (by decide) (by decide) (by decide) (by decide) ?_
          simp only [List.replicate_succ, List.replicate_zero, List.set_cons_zero, List.set_cons_succ, List.length_nil, List.length_cons, Nat.zero_add, Nat.reduceAdd, List.nil_append, List.cons_append]
          refine go_astore_14 e0_285 rfl rfl ?_
          refine go_aload e0_287 rfl rfl ?_
          refine go_aload e0_289 rfl rfl ?_
          refine go_iload e0_291 rfl ?_
          refine go_iload e0_293 rfl ?_
          refine go_iload e0_295 rfl ?_
          refine go_iconst e0_297 (x := 0) rfl ?_
          refine go_staticV_6 e0_298 (wd 9 rfl) (wd 10 rfl) (wd 11 rfl) (wd 4 rfl) hy_1 pd_4 rfl (c_place1 hw (n := 3) (s1 := 0) (i := 0) (K := 0) rfl rfl (by decide) (by decide) (by decide) (by decide) (by decide) (by decide) (by decide) rfl (Nat.le_of_ble_eq_true rfl)) rfl 0 rfl (by decide) (by decide) (by decide) (by decide) ?_
          rintro _ rfl
          try simp only [List.replicate_succ, List.replicate_zero, List.set_cons_zero, List.set_cons_succ, List.length_nil, List.length_cons, Nat.zero_add, Nat.reduceAdd, List.nil_append, List.cons_append]
          refine go_aload e0_301 rfl rfl ?_
          refine go_aload e0_303 rfl rfl ?_
          refine go_iload e0_305 rfl ?_
          refine go_iload e0_307 rfl ?_
          refine go_iload e0_309 rfl ?_
          refine go_iconst e0_311 (x := 1) rfl ?_
          refine go_staticV_6 e0_312 (wd 9 rfl) (wd 10 rfl) (wd 11 rfl) (wd 4 rfl) hy_1 pd_4 rfl (c_place1 hw (n := 3) (s1 := 0) (i := 1) (K := 1) rfl rfl (by decide) (by decide) (by decide) (by decide) (by decide) (by decide) (by decide) rfl (Nat.le_of_ble_eq_true rfl)) rfl 0 rfl (by decide) (by decide) (by decide) (by decide) ?_
          rintro _ rfl
          try simp only [List.replicate_succ, List.replicate_zero, List.set_cons_zero, List.set_cons_succ, List.length_nil, List.length_cons, Nat.zero_add, Nat.reduceAdd, List.nil_append, List.cons_append]
          refine go_aload e0_315 rfl rfl ?_
          refine go_aload e0_317 rfl rfl ?_
          refine go_iload e0_319 rfl ?_
          refine go_iload e0_321 rfl ?_
          refine go_iload e0_323 rfl ?_
          refine go_iconst e0_325 (x := 2) rfl ?_
          refine go_staticV_6 e0_326 (wd 9 rfl) (wd 10 rfl) (wd 11 rfl) (wd 4 rfl) hy_1 pd_4 rfl (c_place1 hw (n := 3) (s1 := 0) (i := 2) (K := 2) rfl rfl (by decide) (by decide) (by decide) (by decide) (by decide) (by decide) (by decide) rfl (Nat.le_of_ble_eq_true rfl)) rfl 0 rfl (by decide) (by decide) (by decide) (by decide) ?_
          rintro _ rfl
          try simp only [List.replicate_succ, List.replicate_zero, List.set_cons_zero, List.set_cons_succ, List.length_nil, List.length_cons, Nat.zero_add, Nat.reduceAdd, List.nil_append, List.cons_append]
          refine go_aload e0_329 rfl rfl ?_
          refine go_aload e0_331 rfl rfl ?_
          refine go_iload e0_333 rfl ?_
          refine go_iload e0_335 rfl ?_
          refine go_iload e0_337 rfl ?_
          refine go_iconst e0_339 (x := 3) rfl ?_
          refine go_staticV_6 e0_340 (wd 9 rfl) (wd 10 rfl) (wd 11 rfl) (wd 4 rfl) hy_1 pd_4 rfl (c_place0 hw (n := 3) (i := 3) (by decide) (by decide) (by decide)) rfl 0 rfl (by decide) (by decide) (by decide) (by decide) ?_
          rintro _ rfl
          try simp only [List.replicate_succ, List.replicate_zero, List.set_cons_zero, List.set_cons_succ, List.length_nil, List.length_cons, Nat.zero_add, Nat.reduceAdd, List.nil_append, List.cons_append]
          refine go_aload e0_343 rfl rfl ?_
          refine go_aload e0_345 rfl rfl ?_
          refine go_iload e0_347 rfl ?_
          refine go_iload e0_349 rfl ?_
          refine go_iload e0_351 rfl ?_
          refine go_iconst e0_353 (x := 4) rfl ?_
          refine go_staticV_6 e0_354 (wd 9 rfl) (wd 10 rfl) (wd 11 rfl) (wd 4 rfl) hy_1 pd_4 rfl (c_place0 hw (n := 3) (i := 4) (by decide) (by decide) (by decide)) rfl 0 rfl (by decide) (by decide) (by decide) (by decide) ?_
          rintro _ rfl
          try simp only [List.replicate_succ, List.replicate_zero, List.set_cons_zero, List.set_cons_succ, List.length_nil, List.length_cons, Nat.zero_add, Nat.reduceAdd, List.nil_append, List.cons_append]
          refine go_aload e0_357 rfl rfl ?_
          refine go_static_1 e0_359 (wd 15 rfl) (wd 16 rfl) (wd 18 rfl) (wd 17 rfl) hy_5 pd_6 rfl (c_norm hw (n := 3) (st := 0) (nn := 3) (va := w1) (vb := w2) rfl rfl (by decide) (by decide) (by intro v hv; simp only [List.mem_cons, List.not_mem_nil, or_false] at hv; rcases hv with rfl | rfl | rfl <;> exact ⟨_, rfl⟩) (by decide) rfl (fun j hj => absurd hj (Nat.not_lt_zero _)) rfl rfl) rfl 0 rfl (by decide) (by decide) (by decide) (by decide) ?_
          rintro _ _ ⟨rfl, out, rfl, hol, hout⟩
          rw [if_pos (by omega)] at hout
          have o0 : out[0]? = some (.int 0) := hout 0 (by decide)
          have o1 : out[1]? = some (.int w1) := hout 1 (by decide)
          have o2 : out[2]? = some (.int w2) := hout 2 (by decide)
          try simp only [List.replicate_succ, List.replicate_zero, List.set_cons_zero, List.set_cons_succ, List.length_nil, List.length_cons, Nat.zero_add, Nat.reduceAdd, List.nil_append, List.cons_append]
          refine go_astore_15 e0_362 rfl rfl ?_
          refine go_aload e0_364 rfl rfl ?_
          refine go_aload e0_366 rfl rfl ?_
          refine go_acmp e0_368 rfl rfl (same := false) (by decide) (tg := 379) (by decide) ?_
          show Go C 371 _ _ _ _ _
          refine go_aload e0_371 rfl rfl ?_
          refine go_len e0_373 rfl (n := 3) (by rw [hol]; decide) ?_
          refine go_iload e0_374 rfl ?_
          refine go_iceqY e0_376 (tg := 381) (by decide) rfl ?_
          refine go_aload e0_381 rfl rfl ?_
          refine go_aload e0_383 rfl rfl ?_
          refine go_iload e0_385 rfl ?_
          refine go_iconst e0_387 (x := 0) rfl ?_
          refine go_iconst e0_388 (x := 1) rfl ?_
          refine go_iconst e0_389 (x := 0) rfl ?_
          refine go_static_6 e0_390 (wd 19 rfl) (wd 20 rfl) (wd 21 rfl) (wd 4 rfl) hy_1 pd_7 rfl (c_same1 hw (n := 3) (s1 := 0) (i := 0) (K := 0) rfl rfl (by decide) (by decide) (by decide) (by decide) (by decide) (by decide) (by decide) rfl o0) rfl 0 rfl (by decide) (by decide) (by decide) (by decide) ?_
          rintro _ _ ⟨rfl, rfl⟩
          try simp only [List.replicate_succ, List.replicate_zero, List.set_cons_zero, List.set_cons_succ, List.length_nil, List.length_cons, Nat.zero_add, Nat.reduceAdd, List.nil_append, List.cons_append]
          refine go_ifeqN e0_393 (tg := 460) (by decide) (by decide) ?_
          refine go_aload e0_396 rfl rfl ?_
          refine go_aload e0_398 rfl rfl ?_
          refine go_iload e0_400 rfl ?_
          refine go_iconst e0_402 (x := 0) rfl ?_
          refine go_iconst e0_403 (x := 1) rfl ?_
          refine go_iconst e0_404 (x := 1) rfl ?_
          refine go_static_6 e0_405 (wd 19 rfl) (wd 20 rfl) (wd 21 rfl) (wd 4 rfl) hy_1 pd_7 rfl (c_same1 hw (n := 3) (s1 := 0) (i := 1) (K := 1) rfl rfl (by decide) (by decide) (by decide) (by decide) (by decide) (by decide) (by decide) rfl o1) rfl 0 rfl (by decide) (by decide) (by decide) (by decide) ?_
          rintro _ _ ⟨rfl, rfl⟩
          try simp only [List.replicate_succ, List.replicate_zero, List.set_cons_zero, List.set_cons_succ, List.length_nil, List.length_cons, Nat.zero_add, Nat.reduceAdd, List.nil_append, List.cons_append]
          refine go_ifeqN e0_408 (tg := 460) (by decide) (by decide) ?_
          refine go_aload e0_411 rfl rfl ?_
          refine go_aload e0_413 rfl rfl ?_
          refine go_iload e0_415 rfl ?_
          refine go_iconst e0_417 (x := 0) rfl ?_
          refine go_iconst e0_418 (x := 1) rfl ?_
          refine go_iconst e0_419 (x := 2) rfl ?_
          refine go_static_6 e0_420 (wd 19 rfl) (wd 20 rfl) (wd 21 rfl) (wd 4 rfl) hy_1 pd_7 rfl (c_same1 hw (n := 3) (s1 := 0) (i := 2) (K := 2) rfl rfl (by decide) (by decide) (by decide) (by decide) (by decide) (by decide) (by decide) rfl o2) rfl 0 rfl (by decide) (by decide) (by decide) (by decide) ?_
          rintro _ _ ⟨rfl, rfl⟩
          try simp only [List.replicate_succ, List.replicate_zero, List.set_cons_zero, List.set_cons_succ, List.length_nil, List.length_cons, Nat.zero_add, Nat.reduceAdd, List.nil_append, List.cons_append]
          refine go_ifeqN e0_423 (tg := 460) (by decide) (by decide) ?_
          refine go_aload e0_426 rfl rfl ?_
          refine go_aload e0_428 rfl rfl ?_
          refine go_iload e0_430 rfl ?_
          refine go_iconst e0_432 (x := 0) rfl ?_
          refine go_iconst e0_433 (x := 1) rfl ?_
          refine go_iconst e0_434 (x := 3) rfl ?_
          refine go_static_6 e0_435 (wd 19 rfl) (wd 20 rfl) (wd 21 rfl) (wd 4 rfl) hy_1 pd_7 rfl (c_same0 hw (n := 3) (i := 3) (by decide) (by decide) (by decide)) rfl 0 rfl (by decide) (by decide) (by decide) (by decide) ?_
          rintro _ _ ⟨rfl, rfl⟩
          try simp only [List.replicate_succ, List.replicate_zero, List.set_cons_zero, List.set_cons_succ, List.length_nil, List.length_cons, Nat.zero_add, Nat.reduceAdd, List.nil_append, List.cons_append]
          refine go_ifeqN e0_438 (tg := 460) (by decide) (by decide) ?_
          refine go_aload e0_441 rfl rfl ?_
          refine go_aload e0_443 rfl rfl ?_
          refine go_iload e0_445 rfl ?_
          refine go_iconst e0_447 (x := 0) rfl ?_
          refine go_iconst e0_448 (x := 1) rfl ?_
          refine go_iconst e0_449 (x := 4) rfl ?_
          refine go_static_6 e0_450 (wd 19 rfl) (wd 20 rfl) (wd 21 rfl) (wd 4 rfl) hy_1 pd_7 rfl (c_same0 hw (n := 3) (i := 4) (by decide) (by decide) (by decide)) rfl 0 rfl (by decide) (by decide) (by decide) (by decide) ?_
          rintro _ _ ⟨rfl, rfl⟩
          try simp only [List.replicate_succ, List.replicate_zero, List.set_cons_zero, List.set_cons_succ, List.length_nil, List.length_cons, Nat.zero_add, Nat.reduceAdd, List.nil_append, List.cons_append]
          refine go_ifeqN e0_453 (tg := 460) (by decide) (by decide) ?_
          refine go_iconst e0_456 (x := 1) rfl ?_
          refine go_goto e0_457 (tg := 461) (by decide) ?_
          refine go_istore_16 e0_461 rfl ?_
          refine go_aload e0_463 rfl rfl ?_
          refine go_aload e0_465 rfl rfl ?_
          refine go_iload e0_467 rfl ?_
          refine go_iload e0_469 rfl ?_
          refine go_iload e0_471 rfl ?_
          refine go_iconst e0_473 (x := 0) rfl ?_
          refine go_static_6 e0_474 (wd 19 rfl) (wd 20 rfl) (wd 21 rfl) (wd 4 rfl) hy_1 pd_7 rfl (c_same1 hw (n := 3) (s1 := 0) (i := 0) (K := 0) rfl rfl (by decide) (by decide) (by decide) (by decide) (by decide) (by decide) (by decide) rfl rfl) rfl 0 rfl (by decide) (by decide) (by decide) (by decide) ?_
          rintro _ _ ⟨rfl, rfl⟩
          try simp only [List.replicate_succ, List.replicate_zero, List.set_cons_zero, List.set_cons_succ, List.length_nil, List.length_cons, Nat.zero_add, Nat.reduceAdd, List.nil_append, List.cons_append]
          refine go_ifeqN e0_477 (tg := 552) (by decide) (by decide) ?_
          refine go_aload e0_480 rfl rfl ?_
          refine go_aload e0_482 rfl rfl ?_
          refine go_iload e0_484 rfl ?_
          refine go_iload e0_486 rfl ?_
          refine go_iload e0_488 rfl ?_
          refine go_iconst e0_490 (x := 1) rfl ?_
          refine go_static_6 e0_491 (wd 19 rfl) (wd 20 rfl) (wd 21 rfl) (wd 4 rfl) hy_1 pd_7 rfl (c_same1 hw (n := 3) (s1 := 0) (i := 1) (K := 1) rfl rfl (by decide) (by decide) (by decide) (by decide) (by decide) (by decide) (by decide) rfl rfl) rfl 0 rfl (by decide) (by decide) (by decide) (by decide) ?_
          rintro _ _ ⟨rfl, rfl⟩
          try simp only [List.replicate_succ, List.replicate_zero, List.set_cons_zero, List.set_cons_succ, List.length_nil, List.length_cons, Nat.zero_add, Nat.reduceAdd, List.nil_append, List.cons_append]
          refine go_ifeqN e0_494 (tg := 552) (by decide) (by decide) ?_
          refine go_aload e0_497 rfl rfl ?_
          refine go_aload e0_499 rfl rfl ?_
          refine go_iload e0_501 rfl ?_
          refine go_iload e0_503 rfl ?_
          refine go_iload e0_505 rfl ?_
          refine go_iconst e0_507 (x := 2) rfl ?_
          refine go_static_6 e0_508 (wd 19 rfl) (wd 20 rfl) (wd 21 rfl) (wd 4 rfl) hy_1 pd_7 rfl (c_same1 hw (n := 3) (s1 := 0) (i := 2) (K := 2) rfl rfl (by decide) (by decide) (by decide) (by decide) (by decide) (by decide) (by decide) rfl rfl) rfl 0 rfl (by decide) (by decide) (by decide) (by decide) ?_
          rintro _ _ ⟨rfl, rfl⟩
          try simp only [List.replicate_succ, List.replicate_zero, List.set_cons_zero, List.set_cons_succ, List.length_nil, List.length_cons, Nat.zero_add, Nat.reduceAdd, List.nil_append, List.cons_append]
          refine go_ifeqN e0_511 (tg := 552) (by decide) (by decide) ?_
          refine go_aload e0_514 rfl rfl ?_
          refine go_aload e0_516 rfl rfl ?_
          refine go_iload e0_518 rfl ?_
          refine go_iload e0_520 rfl ?_
          refine go_iload e0_522 rfl ?_
          refine go_iconst e0_524 (x := 3) rfl ?_
          refine go_static_6 e0_525 (wd 19 rfl) (wd 20 rfl) (wd 21 rfl) (wd 4 rfl) hy_1 pd_7 rfl (c_same0 hw (n := 3) (i := 3) (by decide) (by decide) (by decide)) rfl 0 rfl (by decide) (by decide) (by decide) (by decide) ?_
          rintro _ _ ⟨rfl, rfl⟩
          try simp only [List.replicate_succ, List.replicate_zero, List.set_cons_zero, List.set_cons_succ, List.length_nil, List.length_cons, Nat.zero_add, Nat.reduceAdd, List.nil_append, List.cons_append]
          refine go_ifeqN e0_528 (tg := 552) (by decide) (by decide) ?_
          refine go_aload e0_531 rfl rfl ?_
          refine go_aload e0_533 rfl rfl ?_
          refine go_iload e0_535 rfl ?_
          refine go_iload e0_537 rfl ?_
          refine go_iload e0_539 rfl ?_
          refine go_iconst e0_541 (x := 4) rfl ?_
          refine go_static_6 e0_542 (wd 19 rfl) (wd 20 rfl) (wd 21 rfl) (wd 4 rfl) hy_1 pd_7 rfl (c_same0 hw (n := 3) (i := 4) (by decide) (by decide) (by decide)) rfl 0 rfl (by decide) (by decide) (by decide) (by decide) ?_
          rintro _ _ ⟨rfl, rfl⟩
          try simp only [List.replicate_succ, List.replicate_zero, List.set_cons_zero, List.set_cons_succ, List.length_nil, List.length_cons, Nat.zero_add, Nat.reduceAdd, List.nil_append, List.cons_append]
          refine go_ifeqN e0_545 (tg := 552) (by decide) (by decide) ?_
          refine go_iconst e0_548 (x := 1) rfl ?_
          refine go_goto e0_549 (tg := 553) (by decide) ?_
          refine go_istore_17 e0_553 rfl ?_
          refine go_iload e0_555 rfl ?_
          refine go_ifeqN e0_557 (tg := 569) (by decide) (by decide) ?_
          refine go_iload e0_560 rfl ?_
          refine go_ifeqN e0_562 (tg := 569) (by decide) (by decide) ?_
          refine go_iconst e0_565 (x := 1) rfl ?_
          refine go_goto e0_566 (tg := 570) (by decide) ?_
          refine go_zreturn e0_570 rfl (by decide) (by decide) (by decide) ?_
          exact rfl
      · refine go_iloadN e0_268 rfl ?_
        refine go_iconst e0_269 (x := 1) rfl ?_
        refine go_iand e0_270 ?_
        refine go_ifeq e0_271 (tg := 278) (by decide) ?_ ?_
        · intro c271
          refine go_iconst e0_278 (x := 0) rfl ?_
          refine go_istore_13 e0_279 rfl ?_
          refine go_iload e0_281 rfl ?_
          refine go_newarray e0_283 (wd 1 rfl) (k := 3) rfl (vs := [.int 0, .int 0, .int 0]) rfl (cap := 3) (by decide) (by decide) (by decide) (by decide) ?_
          simp only [List.replicate_succ, List.replicate_zero, List.set_cons_zero, List.set_cons_succ, List.length_nil, List.length_cons, Nat.zero_add, Nat.reduceAdd, List.nil_append, List.cons_append]
          refine go_astore_14 e0_285 rfl rfl ?_
          refine go_aload e0_287 rfl rfl ?_
          refine go_aload e0_289 rfl rfl ?_
          refine go_iload e0_291 rfl ?_
          refine go_iload e0_293 rfl ?_
          refine go_iload e0_295 rfl ?_
          refine go_iconst e0_297 (x := 0) rfl ?_
          refine go_staticV_6 e0_298 (wd 9 rfl) (wd 10 rfl) (wd 11 rfl) (wd 4 rfl) hy_1 pd_4 rfl (c_place1 hw (n := 3) (s1 := 1) (i := 0) (K := 1) rfl rfl (by decide) (by decide) (by decide) (by decide) (by decide) (by decide) (by decide) rfl (Nat.le_of_ble_eq_true rfl)) rfl 0 rfl (by decide) (by decide) (by decide) (by decide) ?_
          rintro _ rfl
          try simp only [List.replicate_succ, List.replicate_zero, List.set_cons_zero, List.set_cons_succ, List.length_nil, List.length_cons, Nat.zero_add, Nat.reduceAdd, List.nil_append, List.cons_append]
          refine go_aload e0_301 rfl rfl ?_
          refine go_aload e0_303 rfl rfl ?_
          refine go_iload e0_305 rfl ?_
          refine go_iload e0_307 rfl ?_
          refine go_iload e0_309 rfl ?_
          refine go_iconst e0_311 (x := 1) rfl ?_
          refine go_staticV_6 e0_312 (wd 9 rfl) (wd 10 rfl) (wd 11 rfl) (wd 4 rfl) hy_1 pd_4 rfl (c_place1 hw (n := 3) (s1 := 1) (i := 1) (K := 0) rfl rfl (by decide) (by decide) (by decide) (by decide) (by decide) (by decide) (by decide) rfl (Nat.le_of_ble_eq_true rfl)) rfl 0 rfl (by decide) (by decide) (by decide) (by decide) ?_
          rintro _ rfl
          try simp only [List.replicate_succ, List.replicate_zero, List.set_cons_zero, List.set_cons_succ, List.length_nil, List.length_cons, Nat.zero_add, Nat.reduceAdd, List.nil_append, List.cons_append]
          refine go_aload e0_315 rfl rfl ?_
          refine go_aload e0_317 rfl rfl ?_
          refine go_iload e0_319 rfl ?_
          refine go_iload e0_321 rfl ?_
          refine go_iload e0_323 rfl ?_
          refine go_iconst e0_325 (x := 2) rfl ?_
          refine go_staticV_6 e0_326 (wd 9 rfl) (wd 10 rfl) (wd 11 rfl) (wd 4 rfl) hy_1 pd_4 rfl (c_place1 hw (n := 3) (s1 := 1) (i := 2) (K := 2) rfl rfl (by decide) (by decide) (by decide) (by decide) (by decide) (by decide) (by decide) rfl (Nat.le_of_ble_eq_true rfl)) rfl 0 rfl (by decide) (by decide) (by decide) (by decide) ?_
          rintro _ rfl
          try simp only [List.replicate_succ, List.replicate_zero, List.set_cons_zero, List.set_cons_succ, List.length_nil, List.length_cons, Nat.zero_add, Nat.reduceAdd, List.nil_append, List.cons_append]
          refine go_aload e0_329 rfl rfl ?_
          refine go_aload e0_331 rfl rfl ?_
          refine go_iload e0_333 rfl ?_
          refine go_iload e0_335 rfl ?_
          refine go_iload e0_337 rfl ?_
          refine go_iconst e0_339 (x := 3) rfl ?_
          refine go_staticV_6 e0_340 (wd 9 rfl) (wd 10 rfl) (wd 11 rfl) (wd 4 rfl) hy_1 pd_4 rfl (c_place0 hw (n := 3) (i := 3) (by decide) (by decide) (by decide)) rfl 0 rfl (by decide) (by decide) (by decide) (by decide) ?_
          rintro _ rfl
          try simp only [List.replicate_succ, List.replicate_zero, List.set_cons_zero, List.set_cons_succ, List.length_nil, List.length_cons, Nat.zero_add, Nat.reduceAdd, List.nil_append, List.cons_append]
          refine go_aload e0_343 rfl rfl ?_
          refine go_aload e0_345 rfl rfl ?_
          refine go_iload e0_347 rfl ?_
          refine go_iload e0_349 rfl ?_
          refine go_iload e0_351 rfl ?_
          refine go_iconst e0_353 (x := 4) rfl ?_
          refine go_staticV_6 e0_354 (wd 9 rfl) (wd 10 rfl) (wd 11 rfl) (wd 4 rfl) hy_1 pd_4 rfl (c_place0 hw (n := 3) (i := 4) (by decide) (by decide) (by decide)) rfl 0 rfl (by decide) (by decide) (by decide) (by decide) ?_
          rintro _ rfl
          try simp only [List.replicate_succ, List.replicate_zero, List.set_cons_zero, List.set_cons_succ, List.length_nil, List.length_cons, Nat.zero_add, Nat.reduceAdd, List.nil_append, List.cons_append]
          refine go_aload e0_357 rfl rfl ?_
          refine go_static_1 e0_359 (wd 15 rfl) (wd 16 rfl) (wd 18 rfl) (wd 17 rfl) hy_5 pd_6 rfl (c_norm hw (n := 3) (st := 1) (nn := 3) (va := w2) (vb := w1) rfl rfl (by decide) (by decide) (by intro v hv; simp only [List.mem_cons, List.not_mem_nil, or_false] at hv; rcases hv with rfl | rfl | rfl <;> exact ⟨_, rfl⟩) (by decide) rfl (fun j hj => by
              have hj2 : j = 0 := by omega
              subst hj2
              exact ⟨_, rfl, n1⟩) rfl rfl) rfl 0 rfl (by decide) (by decide) (by decide) (by decide) ?_
          rintro _ _ ⟨rfl, out, rfl, hol, hout⟩
          rw [if_neg (by omega)] at hout
          have o0 : out[0]? = some (.int 0) := hout 0 (by decide)
          have o1 : out[1]? = some (.int w1) := hout 1 (by decide)
          have o2 : out[2]? = some (.int w2) := hout 2 (by decide)
          try simp only [List.replicate_succ, List.replicate_zero, List.set_cons_zero, List.set_cons_succ, List.length_nil, List.length_cons, Nat.zero_add, Nat.reduceAdd, List.nil_append, List.cons_append]
          refine go_astore_15 e0_362 rfl rfl ?_
          refine go_aload e0_364 rfl rfl ?_
          refine go_aload e0_366 rfl rfl ?_
          refine go_acmp e0_368 rfl rfl (same := false) (by decide) (tg := 379) (by decide) ?_
          show Go C 371 _ _ _ _ _
          refine go_aload e0_371 rfl rfl ?_
          refine go_len e0_373 rfl (n := 3) (by rw [hol]; decide) ?_
          refine go_iload e0_374 rfl ?_
          refine go_iceqY e0_376 (tg := 381) (by decide) rfl ?_
          refine go_aload e0_381 rfl rfl ?_
          refine go_aload e0_383 rfl rfl ?_
          refine go_iload e0_385 rfl ?_
          refine go_iconst e0_387 (x := 0) rfl ?_
          refine go_iconst e0_388 (x := 1) rfl ?_
          refine go_iconst e0_389 (x := 0) rfl ?_
          refine go_static_6 e0_390 (wd 19 rfl) (wd 20 rfl) (wd 21 rfl) (wd 4 rfl) hy_1 pd_7 rfl (c_same1 hw (n := 3) (s1 := 0) (i := 0) (K := 0) rfl rfl (by decide) (by decide) (by decide) (by decide) (by decide) (by decide) (by decide) rfl o0) rfl 0 rfl (by decide) (by decide) (by decide) (by decide) ?_
          rintro _ _ ⟨rfl, rfl⟩
          try simp only [List.replicate_succ, List.replicate_zero, List.set_cons_zero, List.set_cons_succ, List.length_nil, List.length_cons, Nat.zero_add, Nat.reduceAdd, List.nil_append, List.cons_append]
          refine go_ifeqN e0_393 (tg := 460) (by decide) (by decide) ?_
          refine go_aload e0_396 rfl rfl ?_
          refine go_aload e0_398 rfl rfl ?_
          refine go_iload e0_400 rfl ?_
          refine go_iconst e0_402 (x := 0) rfl ?_
          refine go_iconst e0_403 (x := 1) rfl ?_
          refine go_iconst e0_404 (x := 1) rfl ?_
          refine go_static_6 e0_405 (wd 19 rfl) (wd 20 rfl) (wd 21 rfl) (wd 4 rfl) hy_1 pd_7 rfl (c_same1 hw (n := 3) (s1 := 0) (i := 1) (K := 1) rfl rfl (by decide) (by decide) (by decide) (by decide) (by decide) (by decide) (by decide) rfl o1) rfl 0 rfl (by decide) (by decide) (by decide) (by decide) ?_
          rintro _ _ ⟨rfl, rfl⟩
          try simp only [List.replicate_succ, List.replicate_zero, List.set_cons_zero, List.set_cons_succ, List.length_nil, List.length_cons, Nat.zero_add, Nat.reduceAdd, List.nil_append, List.cons_append]
          refine go_ifeqN e0_408 (tg := 460) (by decide) (by decide) ?_
          refine go_aload e0_411 rfl rfl ?_
          refine go_aload e0_413 rfl rfl ?_
          refine go_iload e0_415 rfl ?_
          refine go_iconst e0_417 (x := 0) rfl ?_
          refine go_iconst e0_418 (x := 1) rfl ?_
          refine go_iconst e0_419 (x := 2) rfl ?_
          refine go_static_6 e0_420 (wd 19 rfl) (wd 20 rfl) (wd 21 rfl) (wd 4 rfl) hy_1 pd_7 rfl (c_same1 hw (n := 3) (s1 := 0) (i := 2) (K := 2) rfl rfl (by decide) (by decide) (by decide) (by decide) (by decide) (by decide) (by decide) rfl o2) rfl 0 rfl (by decide) (by decide) (by decide) (by decide) ?_
          rintro _ _ ⟨rfl, rfl⟩
          try simp only [List.replicate_succ, List.replicate_zero, List.set_cons_zero, List.set_cons_succ, List.length_nil, List.length_cons, Nat.zero_add, Nat.reduceAdd, List.nil_append, List.cons_append]
          refine go_ifeqN e0_423 (tg := 460) (by decide) (by decide) ?_
          refine go_aload e0_426 rfl rfl ?_
          refine go_aload e0_428 rfl rfl ?_
          refine go_iload e0_430 rfl ?_
          refine go_iconst e0_432 (x := 0) rfl ?_
          refine go_iconst e0_433 (x := 1) rfl ?_
          refine go_iconst e0_434 (x := 3) rfl ?_
          refine go_static_6 e0_435 (wd 19 rfl) (wd 20 rfl) (wd 21 rfl) (wd 4 rfl) hy_1 pd_7 rfl (c_same0 hw (n := 3) (i := 3) (by decide) (by decide) (by decide)) rfl 0 rfl (by decide) (by decide) (by decide) (by decide) ?_
          rintro _ _ ⟨rfl, rfl⟩
          try simp only [List.replicate_succ, List.replicate_zero, List.set_cons_zero, List.set_cons_succ, List.length_nil, List.length_cons, Nat.zero_add, Nat.reduceAdd, List.nil_append, List.cons_append]
          refine go_ifeqN e0_438 (tg := 460) (by decide) (by decide) ?_
          refine go_aload e0_441 rfl rfl ?_
          refine go_aload e0_443 rfl rfl ?_
          refine go_iload e0_445 rfl ?_
          refine go_iconst e0_447 (x := 0) rfl ?_
          refine go_iconst e0_448 (x := 1) rfl ?_
          refine go_iconst e0_449 (x := 4) rfl ?_
          refine go_static_6 e0_450 (wd 19 rfl) (wd 20 rfl) (wd 21 rfl) (wd 4 rfl) hy_1 pd_7 rfl (c_same0 hw (n := 3) (i := 4) (by decide) (by decide) (by decide)) rfl 0 rfl (by decide) (by decide) (by decide) (by decide) ?_
          rintro _ _ ⟨rfl, rfl⟩
          try simp only [List.replicate_succ, List.replicate_zero, List.set_cons_zero, List.set_cons_succ, List.length_nil, List.length_cons, Nat.zero_add, Nat.reduceAdd, List.nil_append, List.cons_append]
          refine go_ifeqN e0_453 (tg := 460) (by decide) (by decide) ?_
          refine go_iconst e0_456 (x := 1) rfl ?_
          refine go_goto e0_457 (tg := 461) (by decide) ?_
          refine go_istore_16 e0_461 rfl ?_
          refine go_aload e0_463 rfl rfl ?_
          refine go_aload e0_465 rfl rfl ?_
          refine go_iload e0_467 rfl ?_
          refine go_iload e0_469 rfl ?_
          refine go_iload e0_471 rfl ?_
          refine go_iconst e0_473 (x := 0) rfl ?_
          refine go_static_6 e0_474 (wd 19 rfl) (wd 20 rfl) (wd 21 rfl) (wd 4 rfl) hy_1 pd_7 rfl (c_same1 hw (n := 3) (s1 := 1) (i := 0) (K := 1) rfl rfl (by decide) (by decide) (by decide) (by decide) (by decide) (by decide) (by decide) rfl rfl) rfl 0 rfl (by decide) (by decide) (by decide) (by decide) ?_
          rintro _ _ ⟨rfl, rfl⟩
          try simp only [List.replicate_succ, List.replicate_zero, List.set_cons_zero, List.set_cons_succ, List.length_nil, List.length_cons, Nat.zero_add, Nat.reduceAdd, List.nil_append, List.cons_append]
          refine go_ifeqN e0_477 (tg := 552) (by decide) (by decide) ?_
          refine go_aload e0_480 rfl rfl ?_
          refine go_aload e0_482 rfl rfl ?_
          refine go_iload e0_484 rfl ?_
          refine go_iload e0_486 rfl ?_
          refine go_iload e0_488 rfl ?_
          refine go_iconst e0_490 (x := 1) rfl ?_
          refine go_static_6 e0_491 (wd 19 rfl) (wd 20 rfl) (wd 21 rfl) (wd 4 rfl) hy_1 pd_7 rfl (c_same1 hw (n := 3) (s1 := 1) (i := 1) (K := 0) rfl rfl (by decide) (by decide) (by decide) (by decide) (by decide) (by decide) (by decide) rfl rfl) rfl 0 rfl (by decide) (by decide) (by decide) (by decide) ?_
          rintro _ _ ⟨rfl, rfl⟩
          try simp only [List.replicate_succ, List.replicate_zero, List.set_cons_zero, List.set_cons_succ, List.length_nil, List.length_cons, Nat.zero_add, Nat.reduceAdd, List.nil_append, List.cons_append]
          refine go_ifeqN e0_494 (tg := 552) (by decide) (by decide) ?_
          refine go_aload e0_497 rfl rfl ?_
          refine go_aload e0_499 rfl rfl ?_
          refine go_iload e0_501 rfl ?_
          refine go_iload e0_503 rfl ?_
          refine go_iload e0_505 rfl ?_
          refine go_iconst e0_507 (x := 2) rfl ?_
          refine go_static_6 e0_508 (wd 19 rfl) (wd 20 rfl) (wd 21 rfl) (wd 4 rfl) hy_1 pd_7 rfl (c_same1 hw (n := 3) (s1 := 1) (i := 2) (K := 2) rfl rfl (by decide) (by decide) (by decide) (by decide) (by decide) (by decide) (by decide) rfl rfl) rfl 0 rfl (by decide) (by decide) (by decide) (by decide) ?_
          rintro _ _ ⟨rfl, rfl⟩
          try simp only [List.replicate_succ, List.replicate_zero, List.set_cons_zero, List.set_cons_succ, List.length_nil, List.length_cons, Nat.zero_add, Nat.reduceAdd, List.nil_append, List.cons_append]
          refine go_ifeqN e0_511 (tg := 552) (by decide) (by decide) ?_
          refine go_aload e0_514 rfl rfl ?_
          refine go_aload e0_516 rfl rfl ?_
          refine go_iload e0_518 rfl ?_
          refine go_iload e0_520 rfl ?_
          refine go_iload e0_522 rfl ?_
          refine go_iconst e0_524 (x := 3) rfl ?_
          refine go_static_6 e0_525 (wd 19 rfl) (wd 20 rfl) (wd 21 rfl) (wd 4 rfl) hy_1 pd_7 rfl (c_same0 hw (n := 3) (i := 3) (by decide) (by decide) (by decide)) rfl 0 rfl (by decide) (by decide) (by decide) (by decide) ?_
          rintro _ _ ⟨rfl, rfl⟩
          try simp only [List.replicate_succ, List.replicate_zero, List.set_cons_zero, List.set_cons_succ, List.length_nil, List.length_cons, Nat.zero_add, Nat.reduceAdd, List.nil_append, List.cons_append]
          refine go_ifeqN e0_528 (tg := 552) (by decide) (by decide) ?_
          refine go_aload e0_531 rfl rfl ?_
          refine go_aload e0_533 rfl rfl ?_
          refine go_iload e0_535 rfl ?_
          refine go_iload e0_537 rfl ?_
          refine go_iload e0_539 rfl ?_
          refine go_iconst e0_541 (x := 4) rfl ?_
          refine go_static_6 e0_542 (wd 19 rfl) (wd 20 rfl) (wd 21 rfl) (wd 4 rfl) hy_1 pd_7 rfl (c_same0 hw (n := 3) (i := 4) (by decide) (by decide) (by decide)) rfl 0 rfl (by decide) (by decide) (by decide) (by decide) ?_
          rintro _ _ ⟨rfl, rfl⟩
          try simp only [List.replicate_succ, List.replicate_zero, List.set_cons_zero, List.set_cons_succ, List.length_nil, List.length_cons, Nat.zero_add, Nat.reduceAdd, List.nil_append, List.cons_append]
          refine go_ifeqN e0_545 (tg := 552) (by decide) (by decide) ?_
          refine go_iconst e0_548 (x := 1) rfl ?_
          refine go_goto e0_549 (tg := 553) (by decide) ?_
          refine go_istore_17 e0_553 rfl ?_
          refine go_iload e0_555 rfl ?_
          refine go_ifeqN e0_557 (tg := 569) (by decide) (by decide) ?_
          refine go_iload e0_560 rfl ?_
          refine go_ifeqN e0_562 (tg := 569) (by decide) (by decide) ?_
          refine go_iconst e0_565 (x := 1) rfl ?_
          refine go_goto e0_566 (tg := 570) (by decide) ?_
          refine go_zreturn e0_570 rfl (by decide) (by decide) (by decide) ?_
          exact rfl
        · intro c271
          refine go_iconst e0_274 (x := 1) rfl ?_
          refine go_goto e0_275 (tg := 279) (by decide) ?_
          refine go_istore_13 e0_279 rfl ?_
          refine go_iload e0_281 rfl ?_
          refine go_newarray e0_283 (wd 1 rfl) (k := 3) rfl (vs := [.int 0, .int 0, .int 0]) rfl (cap := 3) (by decide) (by decide) (by decide) (by decide) ?_
          simp only [List.replicate_succ, List.replicate_zero, List.set_cons_zero, List.set_cons_succ, List.length_nil, List.length_cons, Nat.zero_add, Nat.reduceAdd, List.nil_append, List.cons_append]
          refine go_astore_14 e0_285 rfl rfl ?_
          refine go_aload e0_287 rfl rfl ?_
          refine go_aload e0_289 rfl rfl ?_
          refine go_iload e0_291 rfl ?_
          refine go_iload e0_293 rfl ?_
          refine go_iload e0_295 rfl ?_
          refine go_iconst e0_297 (x := 0) rfl ?_
          refine go_staticV_6 e0_298 (wd 9 rfl) (wd 10 rfl) (wd 11 rfl) (wd 4 rfl) hy_1 pd_4 rfl (c_place1 hw (n := 3) (s1 := 1) (i := 0) (K := 1) rfl rfl (by decide) (by decide) (by decide) (by decide) (by decide) (by decide) (by decide) rfl (Nat.le_of_ble_eq_true rfl)) rfl 0 rfl (by decide) (by decide) (by decide) (by decide) ?_
          rintro _ rfl
          try simp only [List.replicate_succ, List.replicate_zero, List.set_cons_zero, List.set_cons_succ, List.length_nil, List.length_cons, Nat.zero_add, Nat.reduceAdd, List.nil_append, List.cons_append]
          refine go_aload e0_301 rfl rfl ?_
          refine go_aload e0_303 rfl rfl ?_
          refine go_iload e0_305 rfl ?_
          refine go_iload e0_307 rfl ?_
          refine go_iload e0_309 rfl ?_
          refine go_iconst e0_311 (x := 1) rfl ?_
          refine go_staticV_6 e0_312 (wd 9 rfl) (wd 10 rfl) (wd 11 rfl) (wd 4 rfl) hy_1 pd_4 rfl (c_place1 hw (n := 3) (s1 := 1) (i := 1) (K := 2) rfl rfl (by decide) (by decide) (by decide) (by decide) (by decide) (by decide) (by decide) rfl (Nat.le_of_ble_eq_true rfl)) rfl 0 rfl (by decide) (by decide) (by decide) (by decide) ?_
          rintro _ rfl
          try simp only [List.replicate_succ, List.replicate_zero, List.set_cons_zero, List.set_cons_succ, List.length_nil, List.length_cons, Nat.zero_add, Nat.reduceAdd, List.nil_append, List.cons_append]
          refine go_aload e0_315 rfl rfl ?_
          refine go_aload e0_317 rfl rfl ?_
          refine go_iload e0_319 rfl ?_
          refine go_iload e0_321 rfl ?_
          refine go_iload e0_323 rfl ?_
          refine go_iconst e0_325 (x := 2) rfl ?_
          refine go_staticV_6 e0_326 (wd 9 rfl) (wd 10 rfl) (wd 11 rfl) (wd 4 rfl) hy_1 pd_4 rfl (c_place1 hw (n := 3) (s1 := 1) (i := 2) (K := 0) rfl rfl (by decide) (by decide) (by decide) (by decide) (by decide) (by decide) (by decide) rfl (Nat.le_of_ble_eq_true rfl)) rfl 0 rfl (by decide) (by decide) (by decide) (by decide) ?_
          rintro _ rfl
          try simp only [List.replicate_succ, List.replicate_zero, List.set_cons_zero, List.set_cons_succ, List.length_nil, List.length_cons, Nat.zero_add, Nat.reduceAdd, List.nil_append, List.cons_append]
          refine go_aload e0_329 rfl rfl ?_
          refine go_aload e0_331 rfl rfl ?_
          refine go_iload e0_333 rfl ?_
          refine go_iload e0_335 rfl ?_
          refine go_iload e0_337 rfl ?_
          refine go_iconst e0_339 (x := 3) rfl ?_
          refine go_staticV_6 e0_340 (wd 9 rfl) (wd 10 rfl) (wd 11 rfl) (wd 4 rfl) hy_1 pd_4 rfl (c_place0 hw (n := 3) (i := 3) (by decide) (by decide) (by decide)) rfl 0 rfl (by decide) (by decide) (by decide) (by decide) ?_
          rintro _ rfl
          try simp only [List.replicate_succ, List.replicate_zero, List.set_cons_zero, List.set_cons_succ, List.length_nil, List.length_cons, Nat.zero_add, Nat.reduceAdd, List.nil_append, List.cons_append]
          refine go_aload e0_343 rfl rfl ?_
          refine go_aload e0_345 rfl rfl ?_
          refine go_iload e0_347 rfl ?_
          refine go_iload e0_349 rfl ?_
          refine go_iload e0_351 rfl ?_
          refine go_iconst e0_353 (x := 4) rfl ?_
          refine go_staticV_6 e0_354 (wd 9 rfl) (wd 10 rfl) (wd 11 rfl) (wd 4 rfl) hy_1 pd_4 rfl (c_place0 hw (n := 3) (i := 4) (by decide) (by decide) (by decide)) rfl 0 rfl (by decide) (by decide) (by decide) (by decide) ?_
          rintro _ rfl
          try simp only [List.replicate_succ, List.replicate_zero, List.set_cons_zero, List.set_cons_succ, List.length_nil, List.length_cons, Nat.zero_add, Nat.reduceAdd, List.nil_append, List.cons_append]
          refine go_aload e0_357 rfl rfl ?_
          refine go_static_1 e0_359 (wd 15 rfl) (wd 16 rfl) (wd 18 rfl) (wd 17 rfl) hy_5 pd_6 rfl (c_norm hw (n := 3) (st := 1) (nn := 3) (va := w1) (vb := w2) rfl rfl (by decide) (by decide) (by intro v hv; simp only [List.mem_cons, List.not_mem_nil, or_false] at hv; rcases hv with rfl | rfl | rfl <;> exact ⟨_, rfl⟩) (by decide) rfl (fun j hj => by
              have hj2 : j = 0 := by omega
              subst hj2
              exact ⟨_, rfl, n2⟩) rfl rfl) rfl 0 rfl (by decide) (by decide) (by decide) (by decide) ?_
          rintro _ _ ⟨rfl, out, rfl, hol, hout⟩
          rw [if_pos (by omega)] at hout
          have o0 : out[0]? = some (.int 0) := hout 0 (by decide)
          have o1 : out[1]? = some (.int w1) := hout 1 (by decide)
          have o2 : out[2]? = some (.int w2) := hout 2 (by decide)
          try simp only [List.replicate_succ, List.replicate_zero, List.set_cons_zero, List.set_cons_succ, List.length_nil, List.length_cons, Nat.zero_add, Nat.reduceAdd, List.nil_append, List.cons_append]
          refine go_astore_15 e0_362 rfl rfl ?_
          refine go_aload e0_364 rfl rfl ?_
          refine go_aload e0_366 rfl rfl ?_
          refine go_acmp e0_368 rfl rfl (same := false) (by decide) (tg := 379) (by decide) ?_
          show Go C 371 _ _ _ _ _
          refine go_aload e0_371 rfl rfl ?_
          refine go_len e0_373 rfl (n := 3) (by rw [hol]; decide) ?_
          refine go_iload e0_374 rfl ?_
          refine go_iceqY e0_376 (tg := 381) (by decide) rfl ?_
          refine go_aload e0_381 rfl rfl ?_
          refine go_aload e0_383 rfl rfl ?_
          refine go_iload e0_385 rfl ?_
          refine go_iconst e0_387 (x := 0) rfl ?_
          refine go_iconst e0_388 (x := 1) rfl ?_
          refine go_iconst e0_389 (x := 0) rfl ?_
          refine go_static_6 e0_390 (wd 19 rfl) (wd 20 rfl) (wd 21 rfl) (wd 4 rfl) hy_1 pd_7 rfl (c_same1 hw (n := 3) (s1 := 0) (i := 0) (K := 0) rfl rfl (by decide) (by decide) (by decide) (by decide) (by decide) (by decide) (by decide) rfl o0) rfl 0 rfl (by decide) (by decide) (by decide) (by decide) ?_
          rintro _ _ ⟨rfl, rfl⟩
          try simp only [List.replicate_succ, List.replicate_zero, List.set_cons_zero, List.set_cons_succ, List.length_nil, List.length_cons, Nat.zero_add, Nat.reduceAdd, List.nil_append, List.cons_append]
          refine go_ifeqN e0_393 (tg := 460) (by decide) (by decide) ?_
          refine go_aload e0_396 rfl rfl ?_
          refine go_aload e0_398 rfl rfl ?_
          refine go_iload e0_400 rfl ?_
          refine go_iconst e0_402 (x := 0) rfl ?_
          refine go_iconst e0_403 (x := 1) rfl ?_
          refine go_iconst e0_404 (x := 1) rfl ?_
          refine go_static_6 e0_405 (wd 19 rfl) (wd 20 rfl) (wd 21 rfl) (wd 4 rfl) hy_1 pd_7 rfl (c_same1 hw (n := 3) (s1 := 0) (i := 1) (K := 1) rfl rfl (by decide) (by decide) (by decide) (by decide) (by decide) (by decide) (by decide) rfl o1) rfl 0 rfl (by decide) (by decide) (by decide) (by decide) ?_
          rintro _ _ ⟨rfl, rfl⟩
          try simp only [List.replicate_succ, List.replicate_zero, List.set_cons_zero, List.set_cons_succ, List.length_nil, List.length_cons, Nat.zero_add, Nat.reduceAdd, List.nil_append, List.cons_append]
          refine go_ifeqN e0_408 (tg := 460) (by decide) (by decide) ?_
          refine go_aload e0_411 rfl rfl ?_
          refine go_aload e0_413 rfl rfl ?_
          refine go_iload e0_415 rfl ?_
          refine go_iconst e0_417 (x := 0) rfl ?_
          refine go_iconst e0_418 (x := 1) rfl ?_
          refine go_iconst e0_419 (x := 2) rfl ?_
          refine go_static_6 e0_420 (wd 19 rfl) (wd 20 rfl) (wd 21 rfl) (wd 4 rfl) hy_1 pd_7 rfl (c_same1 hw (n := 3) (s1 := 0) (i := 2) (K := 2) rfl rfl (by decide) (by decide) (by decide) (by decide) (by decide) (by decide) (by decide) rfl o2) rfl 0 rfl (by decide) (by decide) (by decide) (by decide) ?_
          rintro _ _ ⟨rfl, rfl⟩
          try simp only [List.replicate_succ, List.replicate_zero, List.set_cons_zero, List.set_cons_succ, List.length_nil, List.length_cons, Nat.zero_add, Nat.reduceAdd, List.nil_append, List.cons_append]
          refine go_ifeqN e0_423 (tg := 460) (by decide) (by decide) ?_
          refine go_aload e0_426 rfl rfl ?_
          refine go_aload e0_428 rfl rfl ?_
          refine go_iload e0_430 rfl ?_
          refine go_iconst e0_432 (x := 0) rfl ?_
          refine go_iconst e0_433 (x := 1) rfl ?_
          refine go_iconst e0_434 (x := 3) rfl ?_
          refine go_static_6 e0_435 (wd 19 rfl) (wd 20 rfl) (wd 21 rfl) (wd 4 rfl) hy_1 pd_7 rfl (c_same0 hw (n := 3) (i := 3) (by decide) (by decide) (by decide)) rfl 0 rfl (by decide) (by decide) (by decide) (by decide) ?_
          rintro _ _ ⟨rfl, rfl⟩
          try simp only [List.replicate_succ, List.replicate_zero, List.set_cons_zero, List.set_cons_succ, List.length_nil, List.length_cons, Nat.zero_add, Nat.reduceAdd, List.nil_append, List.cons_append]
          refine go_ifeqN e0_438 (tg := 460) (by decide) (by decide) ?_
          refine go_aload e0_441 rfl rfl ?_
          refine go_aload e0_443 rfl rfl ?_
          refine go_iload e0_445 rfl ?_
          refine go_iconst e0_447 (x := 0) rfl ?_
          refine go_iconst e0_448 (x := 1) rfl ?_
          refine go_iconst e0_449 (x := 4) rfl ?_
          refine go_static_6 e0_450 (wd 19 rfl) (wd 20 rfl) (wd 21 rfl) (wd 4 rfl) hy_1 pd_7 rfl (c_same0 hw (n := 3) (i := 4) (by decide) (by decide) (by decide)) rfl 0 rfl (by decide) (by decide) (by decide) (by decide) ?_
          rintro _ _ ⟨rfl, rfl⟩
          try simp only [List.replicate_succ, List.replicate_zero, List.set_cons_zero, List.set_cons_succ, List.length_nil, List.length_cons, Nat.zero_add, Nat.reduceAdd, List.nil_append, List.cons_append]
          refine go_ifeqN e0_453 (tg := 460) (by decide) (by decide) ?_
          refine go_iconst e0_456 (x := 1) rfl ?_
          refine go_goto e0_457 (tg := 461) (by decide) ?_
          refine go_istore_16 e0_461 rfl ?_
          refine go_aload e0_463 rfl rfl ?_
          refine go_aload e0_465 rfl rfl ?_
          refine go_iload e0_467 rfl ?_
          refine go_iload e0_469 rfl ?_
          refine go_iload e0_471 rfl ?_
          refine go_iconst e0_473 (x := 0) rfl ?_
          refine go_static_6 e0_474 (wd 19 rfl) (wd 20 rfl) (wd 21 rfl) (wd 4 rfl) hy_1 pd_7 rfl (c_same1 hw (n := 3) (s1 := 1) (i := 0) (K := 1) rfl rfl (by decide) (by decide) (by decide) (by decide) (by decide) (by decide) (by decide) rfl rfl) rfl 0 rfl (by decide) (by decide) (by decide) (by decide) ?_
          rintro _ _ ⟨rfl, rfl⟩
          try simp only [List.replicate_succ, List.replicate_zero, List.set_cons_zero, List.set_cons_succ, List.length_nil, List.length_cons, Nat.zero_add, Nat.reduceAdd, List.nil_append, List.cons_append]
          refine go_ifeqN e0_477 (tg := 552) (by decide) (by decide) ?_
          refine go_aload e0_480 rfl rfl ?_
          refine go_aload e0_482 rfl rfl ?_
          refine go_iload e0_484 rfl ?_
          refine go_iload e0_486 rfl ?_
          refine go_iload e0_488 rfl ?_
          refine go_iconst e0_490 (x := 1) rfl ?_
          refine go_static_6 e0_491 (wd 19 rfl) (wd 20 rfl) (wd 21 rfl) (wd 4 rfl) hy_1 pd_7 rfl (c_same1 hw (n := 3) (s1 := 1) (i := 1) (K := 2) rfl rfl (by decide) (by decide) (by decide) (by decide) (by decide) (by decide) (by decide) rfl rfl) rfl 0 rfl (by decide) (by decide) (by decide) (by decide) ?_
          rintro _ _ ⟨rfl, rfl⟩
          try simp only [List.replicate_succ, List.replicate_zero, List.set_cons_zero, List.set_cons_succ, List.length_nil, List.length_cons, Nat.zero_add, Nat.reduceAdd, List.nil_append, List.cons_append]
          refine go_ifeqN e0_494 (tg := 552) (by decide) (by decide) ?_
          refine go_aload e0_497 rfl rfl ?_
          refine go_aload e0_499 rfl rfl ?_
          refine go_iload e0_501 rfl ?_
          refine go_iload e0_503 rfl ?_
          refine go_iload e0_505 rfl ?_
          refine go_iconst e0_507 (x := 2) rfl ?_
          refine go_static_6 e0_508 (wd 19 rfl) (wd 20 rfl) (wd 21 rfl) (wd 4 rfl) hy_1 pd_7 rfl (c_same1 hw (n := 3) (s1 := 1) (i := 2) (K := 0) rfl rfl (by decide) (by decide) (by decide) (by decide) (by decide) (by decide) (by decide) rfl rfl) rfl 0 rfl (by decide) (by decide) (by decide) (by decide) ?_
          rintro _ _ ⟨rfl, rfl⟩
          try simp only [List.replicate_succ, List.replicate_zero, List.set_cons_zero, List.set_cons_succ, List.length_nil, List.length_cons, Nat.zero_add, Nat.reduceAdd, List.nil_append, List.cons_append]
          refine go_ifeqN e0_511 (tg := 552) (by decide) (by decide) ?_
          refine go_aload e0_514 rfl rfl ?_
          refine go_aload e0_516 rfl rfl ?_
          refine go_iload e0_518 rfl ?_
          refine go_iload e0_520 rfl ?_
          refine go_iload e0_522 rfl ?_
          refine go_iconst e0_524 (x := 3) rfl ?_
          refine go_static_6 e0_525 (wd 19 rfl) (wd 20 rfl) (wd 21 rfl) (wd 4 rfl) hy_1 pd_7 rfl (c_same0 hw (n := 3) (i := 3) (by decide) (by decide) (by decide)) rfl 0 rfl (by decide) (by decide) (by decide) (by decide) ?_
          rintro _ _ ⟨rfl, rfl⟩
          try simp only [List.replicate_succ, List.replicate_zero, List.set_cons_zero, List.set_cons_succ, List.length_nil, List.length_cons, Nat.zero_add, Nat.reduceAdd, List.nil_append, List.cons_append]
          refine go_ifeqN e0_528 (tg := 552) (by decide) (by decide) ?_
          refine go_aload e0_531 rfl rfl ?_
          refine go_aload e0_533 rfl rfl ?_
          refine go_iload e0_535 rfl ?_
          refine go_iload e0_537 rfl ?_
          refine go_iload e0_539 rfl ?_
          refine go_iconst e0_541 (x := 4) rfl ?_
          refine go_static_6 e0_542 (wd 19 rfl) (wd 20 rfl) (wd 21 rfl) (wd 4 rfl) hy_1 pd_7 rfl (c_same0 hw (n := 3) (i := 4) (by decide) (by decide) (by decide)) rfl 0 rfl (by decide) (by decide) (by decide) (by decide) ?_
          rintro _ _ ⟨rfl, rfl⟩
          try simp only [List.replicate_succ, List.replicate_zero, List.set_cons_zero, List.set_cons_succ, List.length_nil, List.length_cons, Nat.zero_add, Nat.reduceAdd, List.nil_append, List.cons_append]
          refine go_ifeqN e0_545 (tg := 552) (by decide) (by decide) ?_
          refine go_iconst e0_548 (x := 1) rfl ?_
          refine go_goto e0_549 (tg := 553) (by decide) ?_
          refine go_istore_17 e0_553 rfl ?_
          refine go_iload e0_555 rfl ?_
          refine go_ifeqN e0_557 (tg := 569) (by decide) (by decide) ?_
          refine go_iload e0_560 rfl ?_
          refine go_ifeqN e0_562 (tg := 569) (by decide) (by decide) ?_
          refine go_iconst e0_565 (x := 1) rfl ?_
          refine go_goto e0_566 (tg := 570) (by decide) ?_
          refine go_zreturn e0_570 rfl (by decide) (by decide) (by decide) ?_
          exact rfl
      · refine go_iloadN e0_268 rfl ?_
        refine go_iconst e0_269 (x := 1) rfl ?_
        refine go_iand e0_270 ?_
        refine go_ifeq e0_271 (tg := 278) (by decide) ?_ ?_
        · intro c271
          refine go_iconst e0_278 (x := 0) rfl ?_
          refine go_istore_13 e0_279 rfl ?_
          refine go_iload e0_281 rfl ?_
          refine go_newarray e0_283 (wd 1 rfl) (k := 3) rfl (vs := [.int 0, .int 0, .int 0]) rfl (cap := 3) (by decide) (by decide) (by decide) (by decide) ?_
          simp only [List.replicate_succ, List.replicate_zero, List.set_cons_zero, List.set_cons_succ, List.length_nil, List.length_cons, Nat.zero_add, Nat.reduceAdd, List.nil_append, List.cons_append]
          refine go_astore_14 e0_285 rfl rfl ?_
          refine go_aload e0_287 rfl rfl ?_
          refine go_aload e0_289 rfl rfl ?_
          refine go_iload e0_291 rfl ?_
          refine go_iload e0_293 rfl ?_
          refine go_iload e0_295 rfl ?_
          refine go_iconst e0_297 (x := 0) rfl ?_
          refine go_staticV_6 e0_298 (wd 9 rfl) (wd 10 rfl) (wd 11 rfl) (wd 4 rfl) hy_1 pd_4 rfl (c_place1 hw (n := 3) (s1 := 2) (i := 0) (K := 2) rfl rfl (by decide) (by decide) (by decide) (by decide) (by decide) (by decide) (by decide) rfl (Nat.le_of_ble_eq_true rfl)) rfl 0 rfl (by decide) (by decide) (by decide) (by decide) ?_
          rintro _ rfl
          try simp only [List.replicate_succ, List.replicate_zero, List.set_cons_zero, List.set_cons_succ, List.length_nil, List.length_cons, Nat.zero_add, Nat.reduceAdd, List.nil_append, List.cons_append]
          refine go_aload e0_301 rfl rfl ?_
          refine go_aload e0_303 rfl rfl ?_
          refine go_iload e0_305 rfl ?_
          refine go_iload e0_307 rfl ?_
          refine go_iload e0_309 rfl ?_
          refine go_iconst e0_311 (x := 1) rfl ?_
          refine go_staticV_6 e0_312 (wd 9 rfl) (wd 10 rfl) (wd 11 rfl) (wd 4 rfl) hy_1 pd_4 rfl (c_place1 hw (n := 3) (s1 := 2) (i := 1) (K := 1) rfl rfl (by decide) (by decide) (by decide) (by decide) (by decide) (by decide) (by decide) rfl (Nat.le_of_ble_eq_true rfl)) rfl 0 rfl (by decide) (by decide) (by decide) (by decide) ?_
          rintro _ rfl
          try simp only [List.replicate_succ, List.replicate_zero, List.set_cons_zero, List.set_cons_succ, List.length_nil, List.length_cons, Nat.zero_add, Nat.reduceAdd, List.nil_append, List.cons_append]
          refine go_aload e0_315 rfl rfl ?_
          refine go_aload e0_317 rfl rfl ?_
          refine go_iload e0_319 rfl ?_
          refine go_iload e0_321 rfl ?_
          refine go_iload e0_323 rfl ?_
          refine go_iconst e0_325 (x := 2) rfl ?_
          refine go_staticV_6 e0_326 (wd 9 rfl) (wd 10 rfl) (wd 11 rfl) (wd 4 rfl) hy_1 pd_4 rfl (c_place1 hw (n := 3) (s1 := 2) (i := 2) (K := 0) rfl rfl (by decide) (by decide) (by decide) (by decide) (by decide) (by decide) (by decide) rfl (Nat.le_of_ble_eq_true rfl)) rfl 0 rfl (by decide) (by decide) (by decide) (by decide) ?_
          rintro _ rfl
          try simp only [List.replicate_succ, List.replicate_zero, List.set_cons_zero, List.set_cons_succ, List.length_nil, List.length_cons, Nat.zero_add, Nat.reduceAdd, List.nil_append, List.cons_append]
          refine go_aload e0_329 rfl rfl ?_
          refine go_aload e0_331 rfl rfl ?_
          refine go_iload e0_333 rfl ?_
          refine go_iload e0_335 rfl ?_
          refine go_iload e0_337 rfl ?_
          refine go_iconst e0_339 (x := 3) rfl ?_
          refine go_staticV_6 e0_340 (wd 9 rfl) (wd 10 rfl) (wd 11 rfl) (wd 4 rfl) hy_1 pd_4 rfl (c_place0 hw (n := 3) (i := 3) (by decide) (by decide) (by decide)) rfl 0 rfl (by decide) (by decide) (by decide) (by decide) ?_
          rintro _ rfl
          try simp only [List.replicate_succ, List.replicate_zero, List.set_cons_zero, List.set_cons_succ, List.length_nil, List.length_cons, Nat.zero_add, Nat.reduceAdd, List.nil_append, List.cons_append]
          refine go_aload e0_343 rfl rfl ?_
          refine go_aload e0_345 rfl rfl ?_
          refine go_iload e0_347 rfl ?_
          refine go_iload e0_349 rfl ?_
          refine go_iload e0_351 rfl ?_
          refine go_iconst e0_353 (x := 4) rfl ?_
          refine go_staticV_6 e0_354 (wd 9 rfl) (wd 10 rfl) (wd 11 rfl) (wd 4 rfl) hy_1 pd_4 rfl (c_place0 hw (n := 3) (i := 4) (by decide) (by decide) (by decide)) rfl 0 rfl (by decide) (by decide) (by decide) (by decide) ?_
          rintro _ rfl
          try simp only [List.replicate_succ, List.replicate_zero, List.set_cons_zero, List.set_cons_succ, List.length_nil, List.length_cons, Nat.zero_add, Nat.reduceAdd, List.nil_append, List.cons_append]
          refine go_aload e0_357 rfl rfl ?_
          refine go_static_1 e0_359 (wd 15 rfl) (wd 16 rfl) (wd 18 rfl) (wd 17 rfl) hy_5 pd_6 rfl (c_norm hw (n := 3) (st := 2) (nn := 3) (va := w2) (vb := w1) rfl rfl (by decide) (by decide) (by intro v hv; simp only [List.mem_cons, List.not_mem_nil, or_false] at hv; rcases hv with rfl | rfl | rfl <;> exact ⟨_, rfl⟩) (by decide) rfl (fun j hj => by
              have hj2 : j = 0 ∨ j = 1 := by omega
              rcases hj2 with rfl | rfl
              · exact ⟨_, rfl, n2⟩
              · exact ⟨_, rfl, n1⟩) rfl rfl) rfl 0 rfl (by decide) (by decide) (by decide) (by decide) ?_
          rintro _ _ ⟨rfl, out, rfl, hol, hout⟩
          rw [if_neg (by omega)] at hout
          have o0 : out[0]? = some (.int 0) := hout 0 (by decide)
          have o1 : out[1]? = some (.int w1) := hout 1 (by decide)
          have o2 : out[2]? = some (.int w2) := hout 2 (by decide)
          try simp only [List.replicate_succ, List.replicate_zero, List.set_cons_zero, List.set_cons_succ, List.length_nil, List.length_cons, Nat.zero_add, Nat.reduceAdd, List.nil_append, List.cons_append]
          refine go_astore_15 e0_362 rfl rfl ?_
          refine go_aload e0_364 rfl rfl ?_
          refine go_aload e0_366 rfl rfl ?_
          refine go_acmp e0_368 rfl rfl (same := false) (by decide) (tg := 379) (by decide) ?_
          show Go C 371 _ _ _ _ _
          refine go_aload e0_371 rfl rfl ?_
          refine go_len e0_373 rfl (n := 3) (by rw [hol]; decide) ?_
          refine go_iload e0_374 rfl ?_
          refine go_iceqY e0_376 (tg := 381) (by decide) rfl ?_
          refine go_aload e0_381 rfl rfl ?_
          refine go_aload e0_383 rfl rfl ?_
          refine go_iload e0_385 rfl ?_
          refine go_iconst e0_387 (x := 0) rfl ?_
          refine go_iconst e0_388 (x := 1) rfl ?_
          refine go_iconst e0_389 (x := 0) rfl ?_
          refine go_static_6 e0_390 (wd 19 rfl) (wd 20 rfl) (wd 21 rfl) (wd 4 rfl) hy_1 pd_7 rfl (c_same1 hw (n := 3) (s1 := 0) (i := 0) (K := 0) rfl rfl (by decide) (by decide) (by decide) (by decide) (by decide) (by decide) (by decide) rfl o0) rfl 0 rfl (by decide) (by decide) (by decide) (by decide) ?_
          rintro _ _ ⟨rfl, rfl⟩
          try simp only [List.replicate_succ, List.replicate_zero, List.set_cons_zero, List.set_cons_succ, List.length_nil, List.length_cons, Nat.zero_add, Nat.reduceAdd, List.nil_append, List.cons_append]
          refine go_ifeqN e0_393 (tg := 460) (by decide) (by decide) ?_
          refine go_aload e0_396 rfl rfl ?_
          refine go_aload e0_398 rfl rfl ?_
          refine go_iload e0_400 rfl ?_
          refine go_iconst e0_402 (x := 0) rfl ?_
          refine go_iconst e0_403 (x := 1) rfl ?_
          refine go_iconst e0_404 (x := 1) rfl ?_
          refine go_static_6 e0_405 (wd 19 rfl) (wd 20 rfl) (wd 21 rfl) (wd 4 rfl) hy_1 pd_7 rfl (c_same1 hw (n := 3) (s1 := 0) (i := 1) (K := 1) rfl rfl (by decide) (by decide) (by decide) (by decide) (by decide) (by decide) (by decide) rfl o1) rfl 0 rfl (by decide) (by decide) (by decide) (by decide) ?_
          rintro _ _ ⟨rfl, rfl⟩
          try simp only [List.replicate_succ, List.replicate_zero, List.set_cons_zero, List.set_cons_succ, List.length_nil, List.length_cons, Nat.zero_add, Nat.reduceAdd, List.nil_append, List.cons_append]
          refine go_ifeqN e0_408 (tg := 460) (by decide) (by decide) ?_
          refine go_aload e0_411 rfl rfl ?_
          refine go_aload e0_413 rfl rfl ?_
          refine go_iload e0_415 rfl ?_
          refine go_iconst e0_417 (x := 0) rfl ?_
          refine go_iconst e0_418 (x := 1) rfl ?_
          refine go_iconst e0_419 (x := 2) rfl ?_
          refine go_static_6 e0_420 (wd 19 rfl) (wd 20 rfl) (wd 21 rfl) (wd 4 rfl) hy_1 pd_7 rfl (c_same1 hw (n := 3) (s1 := 0) (i := 2) (K := 2) rfl rfl (by decide) (by decide) (by decide) (by decide) (by decide) (by decide) (by decide) rfl o2) rfl 0 rfl (by decide) (by decide) (by decide) (by decide) ?_
          rintro _ _ ⟨rfl, rfl⟩
          try simp only [List.replicate_succ, List.replicate_zero, List.set_cons_zero, List.set_cons_succ, List.length_nil, List.length_cons, Nat.zero_add, Nat.reduceAdd, List.nil_append, List.cons_append]
          refine go_ifeqN e0_423 (tg := 460) (by decide) (by decide) ?_
          refine go_aload e0_426 rfl rfl ?_
          refine go_aload e0_428 rfl rfl ?_
          refine go_iload e0_430 rfl ?_
          refine go_iconst e0_432 (x := 0) rfl ?_
          refine go_iconst e0_433 (x := 1) rfl ?_
          refine go_iconst e0_434 (x := 3) rfl ?_
          refine go_static_6 e0_435 (wd 19 rfl) (wd 20 rfl) (wd 21 rfl) (wd 4 rfl) hy_1 pd_7 rfl (c_same0 hw (n := 3) (i := 3) (by decide) (by decide) (by decide)) rfl 0 rfl (by decide) (by decide) (by decide) (by decide) ?_
          rintro _ _ ⟨rfl, rfl⟩
          try simp only [List.replicate_succ, List.replicate_zero, List.set_cons_zero, List.set_cons_succ, List.length_nil, List.length_cons, Nat.zero_add, Nat.reduceAdd, List.nil_append, List.cons_append]
          refine go_ifeqN e0_438 (tg := 460) (by decide) (by decide) ?_
          refine go_aload e0_441 rfl rfl ?_
          refine go_aload e0_443 rfl rfl ?_
          refine go_iload e0_445 rfl ?_
          refine go_iconst e0_447 (x := 0) rfl ?_
          refine go_iconst e0_448 (x := 1) rfl ?_
          refine go_iconst e0_449 (x := 4) rfl ?_
          refine go_static_6 e0_450 (wd 19 rfl) (wd 20 rfl) (wd 21 rfl) (wd 4 rfl) hy_1 pd_7 rfl (c_same0 hw (n := 3) (i := 4) (by decide) (by decide) (by decide)) rfl 0 rfl (by decide) (by decide) (by decide) (by decide) ?_
          rintro _ _ ⟨rfl, rfl⟩
          try simp only [List.replicate_succ, List.replicate_zero, List.set_cons_zero, List.set_cons_succ, List.length_nil, List.length_cons, Nat.zero_add, Nat.reduceAdd, List.nil_append, List.cons_append]
          refine go_ifeqN e0_453 (tg := 460) (by decide) (by decide) ?_
          refine go_iconst e0_456 (x := 1) rfl ?_
          refine go_goto e0_457 (tg := 461) (by decide) ?_
          refine go_istore_16 e0_461 rfl ?_
          refine go_aload e0_463 rfl rfl ?_
          refine go_aload e0_465 rfl rfl ?_
          refine go_iload e0_467 rfl ?_
          refine go_iload e0_469 rfl ?_
          refine go_iload e0_471 rfl ?_
          refine go_iconst e0_473 (x := 0) rfl ?_
          refine go_static_6 e0_474 (wd 19 rfl) (wd 20 rfl) (wd 21 rfl) (wd 4 rfl) hy_1 pd_7 rfl (c_same1 hw (n := 3) (s1 := 2) (i := 0) (K := 2) rfl rfl (by decide) (by decide) (by decide) (by decide) (by decide) (by decide) (by decide) rfl rfl) rfl 0 rfl (by decide) (by decide) (by decide) (by decide) ?_
          rintro _ _ ⟨rfl, rfl⟩
          try simp only [List.replicate_succ, List.replicate_zero, List.set_cons_zero, List.set_cons_succ, List.length_nil, List.length_cons, Nat.zero_add, Nat.reduceAdd, List.nil_append, List.cons_append]
          refine go_ifeqN e0_477 (tg := 552) (by decide) (by decide) ?_
          refine go_aload e0_480 rfl rfl ?_
          refine go_aload e0_482 rfl rfl ?_
          refine go_iload e0_484 rfl ?_
          refine go_iload e0_486 rfl ?_
          refine go_iload e0_488 rfl ?_
          refine go_iconst e0_490 (x := 1) rfl ?_
          refine go_static_6 e0_491 (wd 19 rfl) (wd 20 rfl) (wd 21 rfl) (wd 4 rfl) hy_1 pd_7 rfl (c_same1 hw (n := 3) (s1 := 2) (i := 1) (K := 1) rfl rfl (by decide) (by decide) (by decide) (by decide) (by decide) (by decide) (by decide) rfl rfl) rfl 0 rfl (by decide) (by decide) (by decide) (by decide) ?_
          rintro _ _ ⟨rfl, rfl⟩
          try simp only [List.replicate_succ, List.replicate_zero, List.set_cons_zero, List.set_cons_succ, List.length_nil, List.length_cons, Nat.zero_add, Nat.reduceAdd, List.nil_append, List.cons_append]
          refine go_ifeqN e0_494 (tg := 552) (by decide) (by decide) ?_
          refine go_aload e0_497 rfl rfl ?_
          refine go_aload e0_499 rfl rfl ?_
          refine go_iload e0_501 rfl ?_
          refine go_iload e0_503 rfl ?_
          refine go_iload e0_505 rfl ?_
          refine go_iconst e0_507 (x := 2) rfl ?_
          refine go_static_6 e0_508 (wd 19 rfl) (wd 20 rfl) (wd 21 rfl) (wd 4 rfl) hy_1 pd_7 rfl (c_same1 hw (n := 3) (s1 := 2) (i := 2) (K := 0) rfl rfl (by decide) (by decide) (by decide) (by decide) (by decide) (by decide) (by decide) rfl rfl) rfl 0 rfl (by decide) (by decide) (by decide) (by decide) ?_
          rintro _ _ ⟨rfl, rfl⟩
          try simp only [List.replicate_succ, List.replicate_zero, List.set_cons_zero, List.set_cons_succ, List.length_nil, List.length_cons, Nat.zero_add, Nat.reduceAdd, List.nil_append, List.cons_append]
          refine go_ifeqN e0_511 (tg := 552) (by decide) (by decide) ?_
          refine go_aload e0_514 rfl rfl ?_
          refine go_aload e0_516 rfl rfl ?_
          refine go_iload e0_518 rfl ?_
          refine go_iload e0_520 rfl ?_
          refine go_iload e0_522 rfl ?_
          refine go_iconst e0_524 (x := 3) rfl ?_
          refine go_static_6 e0_525 (wd 19 rfl) (wd 20 rfl) (wd 21 rfl) (wd 4 rfl) hy_1 pd_7 rfl (c_same0 hw (n := 3) (i := 3) (by decide) (by decide) (by decide)) rfl 0 rfl (by decide) (by decide) (by decide) (by decide) ?_
          rintro _ _ ⟨rfl, rfl⟩
          try simp only [List.replicate_succ, List.replicate_zero, List.set_cons_zero, List.set_cons_succ, List.length_nil, List.length_cons, Nat.zero_add, Nat.reduceAdd, List.nil_append, List.cons_append]
          refine go_ifeqN e0_528 (tg := 552) (by decide) (by decide) ?_
          refine go_aload e0_531 rfl rfl ?_
          refine go_aload e0_533 rfl rfl ?_
          refine go_iload e0_535 rfl ?_
          refine go_iload e0_537 rfl ?_
          refine go_iload e0_539 rfl ?_
          refine go_iconst e0_541 (x := 4) rfl ?_
          refine go_static_6 e0_542 (wd 19 rfl) (wd 20 rfl) (wd 21 rfl) (wd 4 rfl) hy_1 pd_7 rfl (c_same0 hw (n := 3) (i := 4) (by decide) (by decide) (by decide)) rfl 0 rfl (by decide) (by decide) (by decide) (by decide) ?_
          rintro _ _ ⟨rfl, rfl⟩
          try simp only [List.replicate_succ, List.replicate_zero, List.set_cons_zero, List.set_cons_succ, List.length_nil, List.length_cons, Nat.zero_add, Nat.reduceAdd, List.nil_append, List.cons_append]
          refine go_ifeqN e0_545 (tg := 552) (by decide) (by decide) ?_
          refine go_iconst e0_548 (x := 1) rfl ?_
          refine go_goto e0_549 (tg := 553) (by decide) ?_
          refine go_istore_17 e0_553 rfl ?_
          refine go_iload e0_555 rfl ?_
          refine go_ifeqN e0_557 (tg := 569) (by decide) (by decide) ?_
          refine go_iload e0_560 rfl ?_
          refine go_ifeqN e0_562 (tg := 569) (by decide) (by decide) ?_
          refine go_iconst e0_565 (x := 1) rfl ?_
          refine go_goto e0_566 (tg := 570) (by decide) ?_
          refine go_zreturn e0_570 rfl (by decide) (by decide) (by decide) ?_
          exact rfl
        · intro c271
          refine go_iconst e0_274 (x := 1) rfl ?_
          refine go_goto e0_275 (tg := 279) (by decide) ?_
          refine go_istore_13 e0_279 rfl ?_
          refine go_iload e0_281 rfl ?_
          refine go_newarray e0_283 (wd 1 rfl) (k := 3) rfl (vs := [.int 0, .int 0, .int 0]) rfl (cap := 3) (by decide) (by decide) (by decide) (by decide) ?_
          simp only [List.replicate_succ, List.replicate_zero, List.set_cons_zero, List.set_cons_succ, List.length_nil, List.length_cons, Nat.zero_add, Nat.reduceAdd, List.nil_append, List.cons_append]
          refine go_astore_14 e0_285 rfl rfl ?_
          refine go_aload e0_287 rfl rfl ?_
          refine go_aload e0_289 rfl rfl ?_
          refine go_iload e0_291 rfl ?_
          refine go_iload e0_293 rfl ?_
          refine go_iload e0_295 rfl ?_
          refine go_iconst e0_297 (x := 0) rfl ?_
          refine go_staticV_6 e0_298 (wd 9 rfl) (wd 10 rfl) (wd 11 rfl) (wd 4 rfl) hy_1 pd_4 rfl (c_place1 hw (n := 3) (s1 := 2) (i := 0) (K := 2) rfl rfl (by decide) (by decide) (by decide) (by decide) (by decide) (by decide) (by decide) rfl (Nat.le_of_ble_eq_true rfl)) rfl 0 rfl (by decide) (by decide) (by decide) (by decide) ?_
          rintro _ rfl
          try simp only [List.replicate_succ, List.replicate_zero, List.set_cons_zero, List.set_cons_succ, List.length_nil, List.length_cons, Nat.zero_add, Nat.reduceAdd, List.nil_append, List.cons_append]
          refine go_aload e0_301 rfl rfl ?_
          refine go_aload e0_303 rfl rfl ?_
          refine go_iload e0_305 rfl ?_
          refine go_iload e0_307 rfl ?_
          refine go_iload e0_309 rfl ?_
          refine go_iconst e0_311 (x := 1) rfl ?_
          refine go_staticV_6 e0_312 (wd 9 rfl) (wd 10 rfl) (wd 11 rfl) (wd 4 rfl) hy_1 pd_4 rfl (c_place1 hw (n := 3) (s1 := 2) (i := 1) (K := 0) rfl rfl (by decide) (by decide) (by decide) (by decide) (by decide) (by decide) (by decide) rfl (Nat.le_of_ble_eq_true rfl)) rfl 0 rfl (by decide) (by decide) (by decide) (by decide) ?_
          rintro _ rfl
          try simp only [List.replicate_succ, List.replicate_zero, List.set_cons_zero, List.set_cons_succ, List.length_nil, List.length_cons, Nat.zero_add, Nat.reduceAdd, List.nil_append, List.cons_append]
          refine go_aload e0_315 rfl rfl ?_
          refine go_aload e0_317 rfl rfl ?_
          refine go_iload e0_319 rfl ?_
          refine go_iload e0_321 rfl ?_
          refine go_iload e0_323 rfl ?_
          refine go_iconst e0_325 (x := 2) rfl ?_
          refine go_staticV_6 e0_326 (wd 9 rfl) (wd 10 rfl) (wd 11 rfl) (wd 4 rfl) hy_1 pd_4 rfl (c_place1 hw (n := 3) (s1 := 2) (i := 2) (K := 1) rfl rfl (by decide) (by decide) (by decide) (by decide) (by decide) (by decide) (by decide) rfl (Nat.le_of_ble_eq_true rfl)) rfl 0 rfl (by decide) (by decide) (by decide) (by decide) ?_
          rintro _ rfl
          try simp only [List.replicate_succ, List.replicate_zero, List.set_cons_zero, List.set_cons_succ, List.length_nil, List.length_cons, Nat.zero_add, Nat.reduceAdd, List.nil_append, List.cons_append]
          refine go_aload e0_329 rfl rfl ?_
          refine go_aload e0_331 rfl rfl ?_
          refine go_iload e0_333 rfl ?_
          refine go_iload e0_335 rfl ?_
          refine go_iload e0_337 rfl ?_
          refine go_iconst e0_339 (x := 3) rfl ?_
          refine go_staticV_6 e0_340 (wd 9 rfl) (wd 10 rfl) (wd 11 rfl) (wd 4 rfl) hy_1 pd_4 rfl (c_place0 hw (n := 3) (i := 3) (by decide) (by decide) (by decide)) rfl 0 rfl (by decide) (by decide) (by decide) (by decide) ?_
          rintro _ rfl
          try simp only [List.replicate_succ, List.replicate_zero, List.set_cons_zero, List.set_cons_succ, List.length_nil, List.length_cons, Nat.zero_add, Nat.reduceAdd, List.nil_append, List.cons_append]
          refine go_aload e0_343 rfl rfl ?_
          refine go_aload e0_345 rfl rfl ?_
          refine go_iload e0_347 rfl ?_
          refine go_iload e0_349 rfl ?_
          refine go_iload e0_351 rfl ?_
          refine go_iconst e0_353 (x := 4) rfl ?_
          refine go_staticV_6 e0_354 (wd 9 rfl) (wd 10 rfl) (wd 11 rfl) (wd 4 rfl) hy_1 pd_4 rfl (c_place0 hw (n := 3) (i := 4) (by decide) (by decide) (by decide)) rfl 0 rfl (by decide) (by decide) (by decide) (by decide) ?_
          rintro _ rfl
          try simp only [List.replicate_succ, List.replicate_zero, List.set_cons_zero, List.set_cons_succ, List.length_nil, List.length_cons, Nat.zero_add, Nat.reduceAdd, List.nil_append, List.cons_append]
          refine go_aload e0_357 rfl rfl ?_
          refine go_static_1 e0_359 (wd 15 rfl) (wd 16 rfl) (wd 18 rfl) (wd 17 rfl) hy_5 pd_6 rfl (c_norm hw (n := 3) (st := 2) (nn := 3) (va := w1) (vb := w2) rfl rfl (by decide) (by decide) (by intro v hv; simp only [List.mem_cons, List.not_mem_nil, or_false] at hv; rcases hv with rfl | rfl | rfl <;> exact ⟨_, rfl⟩) (by decide) rfl (fun j hj => by
              have hj2 : j = 0 ∨ j = 1 := by omega
              rcases hj2 with rfl | rfl
              · exact ⟨_, rfl, n1⟩
              · exact ⟨_, rfl, n2⟩) rfl rfl) rfl 0 rfl (by decide) (by decide) (by decide) (by decide) ?_
          rintro _ _ ⟨rfl, out, rfl, hol, hout⟩
          rw [if_pos (by omega)] at hout
          have o0 : out[0]? = some (.int 0) := hout 0 (by decide)
          have o1 : out[1]? = some (.int w1) := hout 1 (by decide)
          have o2 : out[2]? = some (.int w2) := hout 2 (by decide)
          try simp only [List.replicate_succ, List.replicate_zero, List.set_cons_zero, List.set_cons_succ, List.length_nil, List.length_cons, Nat.zero_add, Nat.reduceAdd, List.nil_append, List.cons_append]
          refine go_astore_15 e0_362 rfl rfl ?_
          refine go_aload e0_364 rfl rfl ?_
          refine go_aload e0_366 rfl rfl ?_
          refine go_acmp e0_368 rfl rfl (same := false) (by decide) (tg := 379) (by decide) ?_
          show Go C 371 _ _ _ _ _
          refine go_aload e0_371 rfl rfl ?_
          refine go_len e0_373 rfl (n := 3) (by rw [hol]; decide) ?_
          refine go_iload e0_374 rfl ?_
          refine go_iceqY e0_376 (tg := 381) (by decide) rfl ?_
          refine go_aload e0_381 rfl rfl ?_
          refine go_aload e0_383 rfl rfl ?_
          refine go_iload e0_385 rfl ?_
          refine go_iconst e0_387 (x := 0) rfl ?_
          refine go_iconst e0_388 (x := 1) rfl ?_
          refine go_iconst e0_389 (x := 0) rfl ?_
          refine go_static_6 e0_390 (wd 19 rfl) (wd 20 rfl) (wd 21 rfl) (wd 4 rfl) hy_1 pd_7 rfl (c_same1 hw (n := 3) (s1 := 0) (i := 0) (K := 0) rfl rfl (by decide) (by decide) (by decide) (by decide) (by decide) (by decide) (by decide) rfl o0) rfl 0 rfl (by decide) (by decide) (by decide) (by decide) ?_
          rintro _ _ ⟨rfl, rfl⟩
          try simp only [List.replicate_succ, List.replicate_zero, List.set_cons_zero, List.set_cons_succ, List.length_nil, List.length_cons, Nat.zero_add, Nat.reduceAdd, List.nil_append, List.cons_append]
          refine go_ifeqN e0_393 (tg := 460) (by decide) (by decide) ?_
          refine go_aload e0_396 rfl rfl ?_
          refine go_aload e0_398 rfl rfl ?_
          refine go_iload e0_400 rfl ?_
          refine go_iconst e0_402 (x := 0) rfl ?_
          refine go_iconst e0_403 (x := 1) rfl ?_
          refine go_iconst e0_404 (x := 1) rfl ?_
          refine go_static_6 e0_405 (wd 19 rfl) (wd 20 rfl) (wd 21 rfl) (wd 4 rfl) hy_1 pd_7 rfl (c_same1 hw (n := 3) (s1 := 0) (i := 1) (K := 1) rfl rfl (by decide) (by decide) (by decide) (by decide) (by decide) (by decide) (by decide) rfl o1) rfl 0 rfl (by decide) (by decide) (by decide) (by decide) ?_
          rintro _ _ ⟨rfl, rfl⟩
          try simp only [List.replicate_succ, List.replicate_zero, List.set_cons_zero, List.set_cons_succ, List.length_nil, List.length_cons, Nat.zero_add, Nat.reduceAdd, List.nil_append, List.cons_append]
          refine go_ifeqN e0_408 (tg := 460) (by decide) (by decide) ?_
          refine go_aload e0_411 rfl rfl ?_
          refine go_aload e0_413 rfl rfl ?_
          refine go_iload e0_415 rfl ?_
          refine go_iconst e0_417 (x := 0) rfl ?_
          refine go_iconst e0_418 (x := 1) rfl ?_
          refine go_iconst e0_419 (x := 2) rfl ?_
          refine go_static_6 e0_420 (wd 19 rfl) (wd 20 rfl) (wd 21 rfl) (wd 4 rfl) hy_1 pd_7 rfl (c_same1 hw (n := 3) (s1 := 0) (i := 2) (K := 2) rfl rfl (by decide) (by decide) (by decide) (by decide) (by decide) (by decide) (by decide) rfl o2) rfl 0 rfl (by decide) (by decide) (by decide) (by decide) ?_
          rintro _ _ ⟨rfl, rfl⟩
          try simp only [List.replicate_succ, List.replicate_zero, List.set_cons_zero, List.set_cons_succ, List.length_nil, List.length_cons, Nat.zero_add, Nat.reduceAdd, List.nil_append, List.cons_append]
          refine go_ifeqN e0_423 (tg := 460) (by decide) (by decide) ?_
          refine go_aload e0_426 rfl rfl ?_
          refine go_aload e0_428 rfl rfl ?_
          refine go_iload e0_430 rfl ?_
          refine go_iconst e0_432 (x := 0) rfl ?_
          refine go_iconst e0_433 (x := 1) rfl ?_
          refine go_iconst e0_434 (x := 3) rfl ?_
          refine go_static_6 e0_435 (wd 19 rfl) (wd 20 rfl) (wd 21 rfl) (wd 4 rfl) hy_1 pd_7 rfl (c_same0 hw (n := 3) (i := 3) (by decide) (by decide) (by decide)) rfl 0 rfl (by decide) (by decide) (by decide) (by decide) ?_
          rintro _ _ ⟨rfl, rfl⟩
          try simp only [List.replicate_succ, List.replicate_zero, List.set_cons_zero, List.set_cons_succ, List.length_nil, List.length_cons, Nat.zero_add, Nat.reduceAdd, List.nil_append, List.cons_append]
          refine go_ifeqN e0_438 (tg := 460) (by decide) (by decide) ?_
          refine go_aload e0_441 rfl rfl ?_
          refine go_aload e0_443 rfl rfl ?_
          refine go_iload e0_445 rfl ?_
          refine go_iconst e0_447 (x := 0) rfl ?_
          refine go_iconst e0_448 (x := 1) rfl ?_
          refine go_iconst e0_449 (x := 4) rfl ?_
          refine go_static_6 e0_450 (wd 19 rfl) (wd 20 rfl) (wd 21 rfl) (wd 4 rfl) hy_1 pd_7 rfl (c_same0 hw (n := 3) (i := 4) (by decide) (by decide) (by decide)) rfl 0 rfl (by decide) (by decide) (by decide) (by decide) ?_
          rintro _ _ ⟨rfl, rfl⟩
          try simp only [List.replicate_succ, List.replicate_zero, List.set_cons_zero, List.set_cons_succ, List.length_nil, List.length_cons, Nat.zero_add, Nat.reduceAdd, List.nil_append, List.cons_append]
          refine go_ifeqN e0_453 (tg := 460) (by decide) (by decide) ?_
          refine go_iconst e0_456 (x := 1) rfl ?_
          refine go_goto e0_457 (tg := 461) (by decide) ?_
          refine go_istore_16 e0_461 rfl ?_
          refine go_aload e0_463 rfl rfl ?_
          refine go_aload e0_465 rfl rfl ?_
          refine go_iload e0_467 rfl ?_
          refine go_iload e0_469 rfl ?_
          refine go_iload e0_471 rfl ?_
          refine go_iconst e0_473 (x := 0) rfl ?_
          refine go_static_6 e0_474 (wd 19 rfl) (wd 20 rfl) (wd 21 rfl) (wd 4 rfl) hy_1 pd_7 rfl (c_same1 hw (n := 3) (s1 := 2) (i := 0) (K := 2) rfl rfl (by decide) (by decide) (by decide) (by decide) (by decide) (by decide) (by decide) rfl rfl) rfl 0 rfl (by decide) (by decide) (by decide) (by decide) ?_
          rintro _ _ ⟨rfl, rfl⟩
          try simp only [List.replicate_succ, List.replicate_zero, List.set_cons_zero, List.set_cons_succ, List.length_nil, List.length_cons, Nat.zero_add, Nat.reduceAdd, List.nil_append, List.cons_append]
          refine go_ifeqN e0_477 (tg := 552) (by decide) (by decide) ?_
          refine go_aload e0_480 rfl rfl ?_
          refine go_aload e0_482 rfl rfl ?_
          refine go_iload e0_484 rfl ?_
          refine go_iload e0_486 rfl ?_
          refine go_iload e0_488 rfl ?_
          refine go_iconst e0_490 (x := 1) rfl ?_
          refine go_static_6 e0_491 (wd 19 rfl) (wd 20 rfl) (wd 21 rfl) (wd 4 rfl) hy_1 pd_7 rfl (c_same1 hw (n := 3) (s1 := 2) (i := 1) (K := 0) rfl rfl (by decide) (by decide) (by decide) (by decide) (by decide) (by decide) (by decide) rfl rfl) rfl 0 rfl (by decide) (by decide) (by decide) (by decide) ?_
          rintro _ _ ⟨rfl, rfl⟩
          try simp only [List.replicate_succ, List.replicate_zero, List.set_cons_zero, List.set_cons_succ, List.length_nil, List.length_cons, Nat.zero_add, Nat.reduceAdd, List.nil_append, List.cons_append]
          refine go_ifeqN e0_494 (tg := 552) (by decide) (by decide) ?_
          refine go_aload e0_497 rfl rfl ?_
          refine go_aload e0_499 rfl rfl ?_
          refine go_iload e0_501 rfl ?_
          refine go_iload e0_503 rfl ?_
          refine go_iload e0_505 rfl ?_
          refine go_iconst e0_507 (x := 2) rfl ?_
          refine go_static_6 e0_508 (wd 19 rfl) (wd 20 rfl) (wd 21 rfl) (wd 4 rfl) hy_1 pd_7 rfl (c_same1 hw (n := 3) (s1 := 2) (i := 2) (K := 1) rfl rfl (by decide) (by decide) (by decide) (by decide) (by decide) (by decide) (by decide) rfl rfl) rfl 0 rfl (by decide) (by decide) (by decide) (by decide) ?_
          rintro _ _ ⟨rfl, rfl⟩
          try simp only [List.replicate_succ, List.replicate_zero, List.set_cons_zero, List.set_cons_succ, List.length_nil, List.length_cons, Nat.zero_add, Nat.reduceAdd, List.nil_append, List.cons_append]
          refine go_ifeqN e0_511 (tg := 552) (by decide) (by decide) ?_
          refine go_aload e0_514 rfl rfl ?_
          refine go_aload e0_516 rfl rfl ?_
          refine go_iload e0_518 rfl ?_
          refine go_iload e0_520 rfl ?_
          refine go_iload e0_522 rfl ?_
          refine go_iconst e0_524 (x := 3) rfl ?_
          refine go_static_6 e0_525 (wd 19 rfl) (wd 20 rfl) (wd 21 rfl) (wd 4 rfl) hy_1 pd_7 rfl (c_same0 hw (n := 3) (i := 3) (by decide) (by decide) (by decide)) rfl 0 rfl (by decide) (by decide) (by decide) (by decide) ?_
          rintro _ _ ⟨rfl, rfl⟩
          try simp only [List.replicate_succ, List.replicate_zero, List.set_cons_zero, List.set_cons_succ, List.length_nil, List.length_cons, Nat.zero_add, Nat.reduceAdd, List.nil_append, List.cons_append]
          refine go_ifeqN e0_528 (tg := 552) (by decide) (by decide) ?_
          refine go_aload e0_531 rfl rfl ?_
          refine go_aload e0_533 rfl rfl ?_
          refine go_iload e0_535 rfl ?_
          refine go_iload e0_537 rfl ?_
          refine go_iload e0_539 rfl ?_
          refine go_iconst e0_541 (x := 4) rfl ?_
          refine go_static_6 e0_542 (wd 19 rfl) (wd 20 rfl) (wd 21 rfl) (wd 4 rfl) hy_1 pd_7 rfl (c_same0 hw (n := 3) (i := 4) (by decide) (by decide) (by decide)) rfl 0 rfl (by decide) (by decide) (by decide) (by decide) ?_
          rintro _ _ ⟨rfl, rfl⟩
          try simp only [List.replicate_succ, List.replicate_zero, List.set_cons_zero, List.set_cons_succ, List.length_nil, List.length_cons, Nat.zero_add, Nat.reduceAdd, List.nil_append, List.cons_append]
          refine go_ifeqN e0_545 (tg := 552) (by decide) (by decide) ?_
          refine go_iconst e0_548 (x := 1) rfl ?_
          refine go_goto e0_549 (tg := 553) (by decide) ?_
          refine go_istore_17 e0_553 rfl ?_
          refine go_iload e0_555 rfl ?_
          refine go_ifeqN e0_557 (tg := 569) (by decide) (by decide) ?_
          refine go_iload e0_560 rfl ?_
          refine go_ifeqN e0_562 (tg := 569) (by decide) (by decide) ?_
          refine go_iconst e0_565 (x := 1) rfl ?_
          refine go_goto e0_566 (tg := 570) (by decide) ?_
          refine go_zreturn e0_570 rfl (by decide) (by decide) (by decide) ?_
          exact rfl
    have J4 : ∀ (q1 q2 : Int32) (ps : List Value) (k9 : Int32) (hq1 : ¬ q1 = 0) (hq2 : ¬ q2 = 0) (hne : q1.toInt ≠ q2.toInt), Go C 173 [.val (.int i0), .val (.int i1), .val (.int i2), .val (.int i3), .val (.int 3), .val (.int 2), .val (.int c6), .val (.ref 0), .val (.ref 1), .val (.int k9), .unset, .unset, .unset, .unset, .unset, .unset, .unset, .unset] [] [ar .int ps, ar .int [.int q1, .int q2, .int 0, .int 0]] 2 8 := by
      intro q1 q2 ps k9 hq1 hq2 hne
      refine go_iload e0_173 rfl ?_
      refine go_iconst e0_175 (x := 2) rfl ?_
      refine go_icltN e0_176 (tg := 197) (by decide) (by decide) ?_
      refine go_aload e0_179 rfl rfl ?_
      refine go_iconst e0_181 (x := 0) rfl ?_
      refine go_iaload e0_182 rfl (k := 0) (by decide) rfl ?_
      refine go_aload e0_183 rfl rfl ?_
      refine go_iload e0_185 rfl ?_
      refine go_iconst e0_187 (x := 1) rfl ?_
      refine go_isub e0_188 ?_
      refine go_iaload e0_189 rfl (k := 1) (by decide) rfl ?_
      refine go_icle e0_190 (tg := 197) (by decide) ?_ ?_
      · intro c190
        refine go_iconst e0_197 (x := 0) rfl ?_
        refine go_istore_10 e0_198 rfl ?_
        refine go_iload e0_200 rfl ?_
        refine go_newarray e0_202 (wd 1 rfl) (k := 3) rfl (vs := [.int 0, .int 0, .int 0]) rfl (cap := 3) (by decide) (by decide) (by decide) (by decide) ?_
        simp only [List.replicate_succ, List.replicate_zero, List.set_cons_zero, List.set_cons_succ, List.length_nil, List.length_cons, Nat.zero_add, Nat.reduceAdd, List.nil_append, List.cons_append]
        refine go_astore_11 e0_204 rfl rfl ?_
        refine go_aload e0_206 rfl rfl ?_
        refine go_iconst e0_208 (x := 0) rfl ?_
        refine go_iconst e0_209 (x := 0) rfl ?_
        refine go_iastore e0_210 rfl (k := 0) (by decide) (Nat.le_of_ble_eq_true rfl) ?_
        simp only [List.replicate_succ, List.replicate_zero, List.set_cons_zero, List.set_cons_succ, List.length_nil, List.length_cons, Nat.zero_add, Nat.reduceAdd, List.nil_append, List.cons_append]
        refine go_aload e0_211 rfl rfl ?_
        refine go_aload e0_213 rfl rfl ?_
        refine go_iload e0_215 rfl ?_
        refine go_iconst e0_217 (x := 0) rfl ?_
        refine go_iload e0_218 rfl ?_
        refine go_staticV_5 e0_220 (wd 6 rfl) (wd 7 rfl) (wd 8 rfl) (wd 4 rfl) hy_1 pd_8 rfl (c_put1 hw (i := 0) (m0 := 2) (x0 := q1) rfl rfl (by decide) (by decide) (by decide) (by decide) (Nat.le_of_ble_eq_true rfl) (fun _ => rfl) (fun z => absurd rfl z)) rfl 0 rfl (by decide) (by decide) (by decide) (by decide) ?_
        rintro _ rfl
        try simp only [List.replicate_succ, List.replicate_zero, List.set_cons_zero, List.set_cons_succ, List.length_nil, List.length_cons, Nat.zero_add, Nat.reduceAdd, List.nil_append, List.cons_append]
        refine go_aload e0_223 rfl rfl ?_
        refine go_aload e0_225 rfl rfl ?_
        refine go_iload e0_227 rfl ?_
        refine go_iconst e0_229 (x := 1) rfl ?_
        refine go_iload e0_230 rfl ?_
        refine go_staticV_5 e0_232 (wd 6 rfl) (wd 7 rfl) (wd 8 rfl) (wd 4 rfl) hy_1 pd_8 rfl (c_put1 hw (i := 1) (m0 := 2) (x0 := q2) rfl rfl (by decide) (by decide) (by decide) (by decide) (Nat.le_of_ble_eq_true rfl) (fun _ => rfl) (fun z => absurd rfl z)) rfl 0 rfl (by decide) (by decide) (by decide) (by decide) ?_
        rintro _ rfl
        try simp only [List.replicate_succ, List.replicate_zero, List.set_cons_zero, List.set_cons_succ, List.length_nil, List.length_cons, Nat.zero_add, Nat.reduceAdd, List.nil_append, List.cons_append]
        refine go_aload e0_235 rfl rfl ?_
        refine go_aload e0_237 rfl rfl ?_
        refine go_iload e0_239 rfl ?_
        refine go_iconst e0_241 (x := 2) rfl ?_
        refine go_iload e0_242 rfl ?_
        refine go_staticV_5 e0_244 (wd 6 rfl) (wd 7 rfl) (wd 8 rfl) (wd 4 rfl) hy_1 pd_8 rfl (c_put0 hw (i := 2) (m0 := 2) (by decide) (by decide) (by decide)) rfl 0 rfl (by decide) (by decide) (by decide) (by decide) ?_
        rintro _ rfl
        try simp only [List.replicate_succ, List.replicate_zero, List.set_cons_zero, List.set_cons_succ, List.length_nil, List.length_cons, Nat.zero_add, Nat.reduceAdd, List.nil_append, List.cons_append]
        refine go_aload e0_247 rfl rfl ?_
        refine go_aload e0_249 rfl rfl ?_
        refine go_iload e0_251 rfl ?_
        refine go_iconst e0_253 (x := 3) rfl ?_
        refine go_iload e0_254 rfl ?_
        refine go_staticV_5 e0_256 (wd 6 rfl) (wd 7 rfl) (wd 8 rfl) (wd 4 rfl) hy_1 pd_8 rfl (c_put0 hw (i := 3) (m0 := 2) (by decide) (by decide) (by decide)) rfl 0 rfl (by decide) (by decide) (by decide) (by decide) ?_
        rintro _ rfl
        try simp only [List.replicate_succ, List.replicate_zero, List.set_cons_zero, List.set_cons_succ, List.length_nil, List.length_cons, Nat.zero_add, Nat.reduceAdd, List.nil_append, List.cons_append]
        exact J5 q1 q2 _ _ _ _ hq1 hq2 (by omega)
      · intro c190
        refine go_iconst e0_193 (x := 1) rfl ?_
        refine go_goto e0_194 (tg := 198) (by decide) ?_
        refine go_istore_10 e0_198 rfl ?_
        refine go_iload e0_200 rfl ?_
        refine go_newarray e0_202 (wd 1 rfl) (k := 3) rfl (vs := [.int 0, .int 0, .int 0]) rfl (cap := 3) (by decide) (by decide) (by decide) (by decide) ?_
        simp only [List.replicate_succ, List.replicate_zero, List.set_cons_zero, List.set_cons_succ, List.length_nil, List.length_cons, Nat.zero_add, Nat.reduceAdd, List.nil_append, List.cons_append]
        refine go_astore_11 e0_204 rfl rfl ?_
        refine go_aload e0_206 rfl rfl ?_
        refine go_iconst e0_208 (x := 0) rfl ?_
        refine go_iconst e0_209 (x := 0) rfl ?_
        refine go_iastore e0_210 rfl (k := 0) (by decide) (Nat.le_of_ble_eq_true rfl) ?_
        simp only [List.replicate_succ, List.replicate_zero, List.set_cons_zero, List.set_cons_succ, List.length_nil, List.length_cons, Nat.zero_add, Nat.reduceAdd, List.nil_append, List.cons_append]
        refine go_aload e0_211 rfl rfl ?_
        refine go_aload e0_213 rfl rfl ?_
        refine go_iload e0_215 rfl ?_
        refine go_iconst e0_217 (x := 0) rfl ?_
        refine go_iload e0_218 rfl ?_
        refine go_staticV_5 e0_220 (wd 6 rfl) (wd 7 rfl) (wd 8 rfl) (wd 4 rfl) hy_1 pd_8 rfl (c_put1 hw (i := 0) (m0 := 2) (x0 := q2) rfl rfl (by decide) (by decide) (by decide) (by decide) (Nat.le_of_ble_eq_true rfl) (fun z => absurd z (by decide)) (fun _ => rfl)) rfl 0 rfl (by decide) (by decide) (by decide) (by decide) ?_
        rintro _ rfl
        try simp only [List.replicate_succ, List.replicate_zero, List.set_cons_zero, List.set_cons_succ, List.length_nil, List.length_cons, Nat.zero_add, Nat.reduceAdd, List.nil_append, List.cons_append]
        refine go_aload e0_223 rfl rfl ?_
        refine go_aload e0_225 rfl rfl ?_
        refine go_iload e0_227 rfl ?_
        refine go_iconst e0_229 (x := 1) rfl ?_
        refine go_iload e0_230 rfl ?_
        refine go_staticV_5 e0_232 (wd 6 rfl) (wd 7 rfl) (wd 8 rfl) (wd 4 rfl) hy_1 pd_8 rfl (c_put1 hw (i := 1) (m0 := 2) (x0 := q1) rfl rfl (by decide) (by decide) (by decide) (by decide) (Nat.le_of_ble_eq_true rfl) (fun z => absurd z (by decide)) (fun _ => rfl)) rfl 0 rfl (by decide) (by decide) (by decide) (by decide) ?_
        rintro _ rfl
        try simp only [List.replicate_succ, List.replicate_zero, List.set_cons_zero, List.set_cons_succ, List.length_nil, List.length_cons, Nat.zero_add, Nat.reduceAdd, List.nil_append, List.cons_append]
        refine go_aload e0_235 rfl rfl ?_
        refine go_aload e0_237 rfl rfl ?_
        refine go_iload e0_239 rfl ?_
        refine go_iconst e0_241 (x := 2) rfl ?_
        refine go_iload e0_242 rfl ?_
        refine go_staticV_5 e0_244 (wd 6 rfl) (wd 7 rfl) (wd 8 rfl) (wd 4 rfl) hy_1 pd_8 rfl (c_put0 hw (i := 2) (m0 := 2) (by decide) (by decide) (by decide)) rfl 0 rfl (by decide) (by decide) (by decide) (by decide) ?_
        rintro _ rfl
        try simp only [List.replicate_succ, List.replicate_zero, List.set_cons_zero, List.set_cons_succ, List.length_nil, List.length_cons, Nat.zero_add, Nat.reduceAdd, List.nil_append, List.cons_append]
        refine go_aload e0_247 rfl rfl ?_
        refine go_aload e0_249 rfl rfl ?_
        refine go_iload e0_251 rfl ?_
        refine go_iconst e0_253 (x := 3) rfl ?_
        refine go_iload e0_254 rfl ?_
        refine go_staticV_5 e0_256 (wd 6 rfl) (wd 7 rfl) (wd 8 rfl) (wd 4 rfl) hy_1 pd_8 rfl (c_put0 hw (i := 3) (m0 := 2) (by decide) (by decide) (by decide)) rfl 0 rfl (by decide) (by decide) (by decide) (by decide) ?_
        rintro _ rfl
        try simp only [List.replicate_succ, List.replicate_zero, List.set_cons_zero, List.set_cons_succ, List.length_nil, List.length_cons, Nat.zero_add, Nat.reduceAdd, List.nil_append, List.cons_append]
        exact J5 q2 q1 _ _ _ _ hq2 hq1 (by omega)
    have J3 : ∀ (p0 p1 p2 p3 : Int32), D4 p0 p1 p2 p3 → Go C 89 [.val (.int i0), .val (.int i1), .val (.int i2), .val (.int i3), .val (.int 3), .val (.int 2), .val (.int c6), .val (.ref 0), .val (.ref 1), .val (.int 0), .unset, .unset, .unset, .unset, .unset, .unset, .unset, .unset] [] [ar .int [.int p0, .int p1, .int p2, .int p3], ar .int [.int 0, .int 0, .int 0, .int 0]] 2 8 := by
      intro p0 p1 p2 p3 hD
      unfold D4 at hD
      have km : (2 : Int32).toInt = 2 := rfl
      refine go_aload e0_89 rfl rfl ?_
      refine go_iconst e0_91 (x := 0) rfl ?_
      refine go_iaload e0_92 rfl (k := 0) (by decide) rfl ?_
      refine go_iload e0_93 rfl ?_
      refine go_icgt e0_95 (tg := 110) (by decide) ?_ ?_
      · intro c95
        refine go_aload e0_110 rfl rfl ?_
        refine go_iconst e0_112 (x := 1) rfl ?_
        refine go_iaload e0_113 rfl (k := 1) (by decide) rfl ?_
        refine go_iload e0_114 rfl ?_
        refine go_icgt e0_116 (tg := 131) (by decide) ?_ ?_
        · intro c116
          refine go_aload e0_131 rfl rfl ?_
          refine go_iconst e0_133 (x := 2) rfl ?_
          refine go_iaload e0_134 rfl (k := 2) (by decide) rfl ?_
          refine go_iload e0_135 rfl ?_
          refine go_icgt e0_137 (tg := 152) (by decide) ?_ ?_
          · intro c137
            refine go_aload e0_152 rfl rfl ?_
            refine go_iconst e0_154 (x := 3) rfl ?_
            refine go_iaload e0_155 rfl (k := 3) (by decide) rfl ?_
            refine go_iload e0_156 rfl ?_
            refine go_icgt e0_158 (tg := 173) (by decide) ?_ ?_
            · intro c158
              exfalso; omega
            · intro c158
              refine go_aload e0_161 rfl rfl ?_
              refine go_iload e0_163 rfl ?_
              refine go_aload e0_165 rfl rfl ?_
              refine go_iconst e0_167 (x := 3) rfl ?_
              refine go_iaload e0_168 rfl (k := 3) (by decide) rfl ?_
              refine go_iastore e0_169 rfl (k := 0) (by decide) (Nat.le_of_ble_eq_true rfl) ?_
              simp only [List.replicate_succ, List.replicate_zero, List.set_cons_zero, List.set_cons_succ, List.length_nil, List.length_cons, Nat.zero_add, Nat.reduceAdd, List.nil_append, List.cons_append]
              refine go_iinc_9 e0_170 (z := 1) rfl ?_
              exfalso; omega
          · intro c137
            refine go_aload e0_140 rfl rfl ?_
            refine go_iload e0_142 rfl ?_
            refine go_aload e0_144 rfl rfl ?_
            refine go_iconst e0_146 (x := 2) rfl ?_
            refine go_iaload e0_147 rfl (k := 2) (by decide) rfl ?_
            refine go_iastore e0_148 rfl (k := 0) (by decide) (Nat.le_of_ble_eq_true rfl) ?_
            simp only [List.replicate_succ, List.replicate_zero, List.set_cons_zero, List.set_cons_succ, List.length_nil, List.length_cons, Nat.zero_add, Nat.reduceAdd, List.nil_append, List.cons_append]
            refine go_iinc_9 e0_149 (z := 1) rfl ?_
            refine go_aload e0_152 rfl rfl ?_
            refine go_iconst e0_154 (x := 3) rfl ?_
            refine go_iaload e0_155 rfl (k := 3) (by decide) rfl ?_
            refine go_iload e0_156 rfl ?_
            refine go_icgt e0_158 (tg := 173) (by decide) ?_ ?_
            · intro c158
              exfalso; omega
            · intro c158
              refine go_aload e0_161 rfl rfl ?_
              refine go_iload e0_163 rfl ?_
              refine go_aload e0_165 rfl rfl ?_
              refine go_iconst e0_167 (x := 3) rfl ?_
              refine go_iaload e0_168 rfl (k := 3) (by decide) rfl ?_
              refine go_iastore e0_169 rfl (k := 1) (by decide) (Nat.le_of_ble_eq_true rfl) ?_
              simp only [List.replicate_succ, List.replicate_zero, List.set_cons_zero, List.set_cons_succ, List.length_nil, List.length_cons, Nat.zero_add, Nat.reduceAdd, List.nil_append, List.cons_append]
              refine go_iinc_9 e0_170 (z := 1) rfl ?_
              exact J4 p2 p3 _ _ (own_ne0 (by omega)) (own_ne0 (by omega)) (by omega)
        · intro c116
          refine go_aload e0_119 rfl rfl ?_
          refine go_iload e0_121 rfl ?_
          refine go_aload e0_123 rfl rfl ?_
          refine go_iconst e0_125 (x := 1) rfl ?_
          refine go_iaload e0_126 rfl (k := 1) (by decide) rfl ?_
          refine go_iastore e0_127 rfl (k := 0) (by decide) (Nat.le_of_ble_eq_true rfl) ?_
          simp only [List.replicate_succ, List.replicate_zero, List.set_cons_zero, List.set_cons_succ, List.length_nil, List.length_cons, Nat.zero_add, Nat.reduceAdd, List.nil_append, List.cons_append]
          refine go_iinc_9 e0_128 (z := 1) rfl ?_
          refine go_aload e0_131 rfl rfl ?_
          refine go_iconst e0_133 (x := 2) rfl ?_
          refine go_iaload e0_134 rfl (k := 2) (by decide) rfl ?_
          refine go_iload e0_135 rfl ?_
          refine go_icgt e0_137 (tg := 152) (by decide) ?_ ?_
          · intro c137
            refine go_aload e0_152 rfl rfl ?_
            refine go_iconst e0_154 (x := 3) rfl ?_
            refine go_iaload e0_155 rfl (k := 3) (by decide) rfl ?_
            refine go_iload e0_156 rfl ?_
            refine go_icgt e0_158 (tg := 173) (by decide) ?_ ?_
            · intro c158
              exfalso; omega
            · intro c158
              refine go_aload e0_161 rfl rfl ?_
              refine go_iload e0_163 rfl ?_
              refine go_aload e0_165 rfl rfl ?_
              refine go_iconst e0_167 (x := 3) rfl ?_
              refine go_iaload e0_168 rfl (k := 3) (by decide) rfl ?_
              refine go_iastore e0_169 rfl (k := 1) (by decide) (Nat.le_of_ble_eq_true rfl) ?_
              simp only [List.replicate_succ, List.replicate_zero, List.set_cons_zero, List.set_cons_succ, List.length_nil, List.length_cons, Nat.zero_add, Nat.reduceAdd, List.nil_append, List.cons_append]
              refine go_iinc_9 e0_170 (z := 1) rfl ?_
              exact J4 p1 p3 _ _ (own_ne0 (by omega)) (own_ne0 (by omega)) (by omega)
          · intro c137
            refine go_aload e0_140 rfl rfl ?_
            refine go_iload e0_142 rfl ?_
            refine go_aload e0_144 rfl rfl ?_
            refine go_iconst e0_146 (x := 2) rfl ?_
            refine go_iaload e0_147 rfl (k := 2) (by decide) rfl ?_
            refine go_iastore e0_148 rfl (k := 1) (by decide) (Nat.le_of_ble_eq_true rfl) ?_
            simp only [List.replicate_succ, List.replicate_zero, List.set_cons_zero, List.set_cons_succ, List.length_nil, List.length_cons, Nat.zero_add, Nat.reduceAdd, List.nil_append, List.cons_append]
            refine go_iinc_9 e0_149 (z := 1) rfl ?_
            refine go_aload e0_152 rfl rfl ?_
            refine go_iconst e0_154 (x := 3) rfl ?_
            refine go_iaload e0_155 rfl (k := 3) (by decide) rfl ?_
            refine go_iload e0_156 rfl ?_
            refine go_icgt e0_158 (tg := 173) (by decide) ?_ ?_
            · intro c158
              exact J4 p1 p2 _ _ (own_ne0 (by omega)) (own_ne0 (by omega)) (by omega)
            · intro c158
              refine go_aload e0_161 rfl rfl ?_
              refine go_iload e0_163 rfl ?_
              refine go_aload e0_165 rfl rfl ?_
              refine go_iconst e0_167 (x := 3) rfl ?_
              refine go_iaload e0_168 rfl (k := 3) (by decide) rfl ?_
              refine go_iastore e0_169 rfl (k := 2) (by decide) (Nat.le_of_ble_eq_true rfl) ?_
              simp only [List.replicate_succ, List.replicate_zero, List.set_cons_zero, List.set_cons_succ, List.length_nil, List.length_cons, Nat.zero_add, Nat.reduceAdd, List.nil_append, List.cons_append]
              refine go_iinc_9 e0_170 (z := 1) rfl ?_
              exfalso; omega
      · intro c95
        refine go_aload e0_98 rfl rfl ?_
        refine go_iload e0_100 rfl ?_
        refine go_aload e0_102 rfl rfl ?_
        refine go_iconst e0_104 (x := 0) rfl ?_
        refine go_iaload e0_105 rfl (k := 0) (by decide) rfl ?_
        refine go_iastore e0_106 rfl (k := 0) (by decide) (Nat.le_of_ble_eq_true rfl) ?_
        simp only [List.replicate_succ, List.replicate_zero, List.set_cons_zero, List.set_cons_succ, List.length_nil, List.length_cons, Nat.zero_add, Nat.reduceAdd, List.nil_append, List.cons_append]
        refine go_iinc_9 e0_107 (z := 1) rfl ?_
        refine go_aload e0_110 rfl rfl ?_
        refine go_iconst e0_112 (x := 1) rfl ?_
        refine go_iaload e0_113 rfl (k := 1) (by decide) rfl ?_
        refine go_iload e0_114 rfl ?_
        refine go_icgt e0_116 (tg := 131) (by decide) ?_ ?_
        · intro c116
          refine go_aload e0_131 rfl rfl ?_
          refine go_iconst e0_133 (x := 2) rfl ?_
          refine go_iaload e0_134 rfl (k := 2) (by decide) rfl ?_
          refine go_iload e0_135 rfl ?_
          refine go_icgt e0_137 (tg := 152) (by decide) ?_ ?_
          · intro c137
            refine go_aload e0_152 rfl rfl ?_
            refine go_iconst e0_154 (x := 3) rfl ?_
            refine go_iaload e0_155 rfl (k := 3) (by decide) rfl ?_
            refine go_iload e0_156 rfl ?_
            refine go_icgt e0_158 (tg := 173) (by decide) ?_ ?_
            · intro c158
              exfalso; omega
            · intro c158
              refine go_aload e0_161 rfl rfl ?_
              refine go_iload e0_163 rfl ?_
              refine go_aload e0_165 rfl rfl ?_
              refine go_iconst e0_167 (x := 3) rfl ?_
              refine go_iaload e0_168 rfl (k := 3) (by decide) rfl ?_
              refine go_iastore e0_169 rfl (k := 1) (by decide) (Nat.le_of_ble_eq_true rfl) ?_
              simp only [List.replicate_succ, List.replicate_zero, List.set_cons_zero, List.set_cons_succ, List.length_nil, List.length_cons, Nat.zero_add, Nat.reduceAdd, List.nil_append, List.cons_append]
              refine go_iinc_9 e0_170 (z := 1) rfl ?_
              exact J4 p0 p3 _ _ (own_ne0 (by omega)) (own_ne0 (by omega)) (by omega)
          · intro c137
            refine go_aload e0_140 rfl rfl ?_
            refine go_iload e0_142 rfl ?_
            refine go_aload e0_144 rfl rfl ?_
            refine go_iconst e0_146 (x := 2) rfl ?_
            refine go_iaload e0_147 rfl (k := 2) (by decide) rfl ?_
            refine go_iastore e0_148 rfl (k := 1) (by decide) (Nat.le_of_ble_eq_true rfl) ?_
            simp only [List.replicate_succ, List.replicate_zero, List.set_cons_zero, List.set_cons_succ, List.length_nil, List.length_cons, Nat.zero_add, Nat.reduceAdd, List.nil_append, List.cons_append]
            refine go_iinc_9 e0_149 (z := 1) rfl ?_
            refine go_aload e0_152 rfl rfl ?_
            refine go_iconst e0_154 (x := 3) rfl ?_
            refine go_iaload e0_155 rfl (k := 3) (by decide) rfl ?_
            refine go_iload e0_156 rfl ?_
            refine go_icgt e0_158 (tg := 173) (by decide) ?_ ?_
            · intro c158
              exact J4 p0 p2 _ _ (own_ne0 (by omega)) (own_ne0 (by omega)) (by omega)
            · intro c158
              refine go_aload e0_161 rfl rfl ?_
              refine go_iload e0_163 rfl ?_
              refine go_aload e0_165 rfl rfl ?_
              refine go_iconst e0_167 (x := 3) rfl ?_
              refine go_iaload e0_168 rfl (k := 3) (by decide) rfl ?_
              refine go_iastore e0_169 rfl (k := 2) (by decide) (Nat.le_of_ble_eq_true rfl) ?_
              simp only [List.replicate_succ, List.replicate_zero, List.set_cons_zero, List.set_cons_succ, List.length_nil, List.length_cons, Nat.zero_add, Nat.reduceAdd, List.nil_append, List.cons_append]
              refine go_iinc_9 e0_170 (z := 1) rfl ?_
              exfalso; omega
        · intro c116
          refine go_aload e0_119 rfl rfl ?_
          refine go_iload e0_121 rfl ?_
          refine go_aload e0_123 rfl rfl ?_
          refine go_iconst e0_125 (x := 1) rfl ?_
          refine go_iaload e0_126 rfl (k := 1) (by decide) rfl ?_
          refine go_iastore e0_127 rfl (k := 1) (by decide) (Nat.le_of_ble_eq_true rfl) ?_
          simp only [List.replicate_succ, List.replicate_zero, List.set_cons_zero, List.set_cons_succ, List.length_nil, List.length_cons, Nat.zero_add, Nat.reduceAdd, List.nil_append, List.cons_append]
          refine go_iinc_9 e0_128 (z := 1) rfl ?_
          refine go_aload e0_131 rfl rfl ?_
          refine go_iconst e0_133 (x := 2) rfl ?_
          refine go_iaload e0_134 rfl (k := 2) (by decide) rfl ?_
          refine go_iload e0_135 rfl ?_
          refine go_icgt e0_137 (tg := 152) (by decide) ?_ ?_
          · intro c137
            refine go_aload e0_152 rfl rfl ?_
            refine go_iconst e0_154 (x := 3) rfl ?_
            refine go_iaload e0_155 rfl (k := 3) (by decide) rfl ?_
            refine go_iload e0_156 rfl ?_
            refine go_icgt e0_158 (tg := 173) (by decide) ?_ ?_
            · intro c158
              exact J4 p0 p1 _ _ (own_ne0 (by omega)) (own_ne0 (by omega)) (by omega)
            · intro c158
              refine go_aload e0_161 rfl rfl ?_
              refine go_iload e0_163 rfl ?_
              refine go_aload e0_165 rfl rfl ?_
              refine go_iconst e0_167 (x := 3) rfl ?_
              refine go_iaload e0_168 rfl (k := 3) (by decide) rfl ?_
              refine go_iastore e0_169 rfl (k := 2) (by decide) (Nat.le_of_ble_eq_true rfl) ?_
              simp only [List.replicate_succ, List.replicate_zero, List.set_cons_zero, List.set_cons_succ, List.length_nil, List.length_cons, Nat.zero_add, Nat.reduceAdd, List.nil_append, List.cons_append]
              refine go_iinc_9 e0_170 (z := 1) rfl ?_
              exfalso; omega
          · intro c137
            refine go_aload e0_140 rfl rfl ?_
            refine go_iload e0_142 rfl ?_
            refine go_aload e0_144 rfl rfl ?_
            refine go_iconst e0_146 (x := 2) rfl ?_
            refine go_iaload e0_147 rfl (k := 2) (by decide) rfl ?_
            refine go_iastore e0_148 rfl (k := 2) (by decide) (Nat.le_of_ble_eq_true rfl) ?_
            simp only [List.replicate_succ, List.replicate_zero, List.set_cons_zero, List.set_cons_succ, List.length_nil, List.length_cons, Nat.zero_add, Nat.reduceAdd, List.nil_append, List.cons_append]
            refine go_iinc_9 e0_149 (z := 1) rfl ?_
            refine go_aload e0_152 rfl rfl ?_
            refine go_iconst e0_154 (x := 3) rfl ?_
            refine go_iaload e0_155 rfl (k := 3) (by decide) rfl ?_
            refine go_iload e0_156 rfl ?_
            refine go_icgt e0_158 (tg := 173) (by decide) ?_ ?_
            · intro c158
              exfalso; omega
            · intro c158
              refine go_aload e0_161 rfl rfl ?_
              refine go_iload e0_163 rfl ?_
              refine go_aload e0_165 rfl rfl ?_
              refine go_iconst e0_167 (x := 3) rfl ?_
              refine go_iaload e0_168 rfl (k := 3) (by decide) rfl ?_
              refine go_iastore e0_169 rfl (k := 3) (by decide) (Nat.le_of_ble_eq_true rfl) ?_
              simp only [List.replicate_succ, List.replicate_zero, List.set_cons_zero, List.set_cons_succ, List.length_nil, List.length_cons, Nat.zero_add, Nat.reduceAdd, List.nil_append, List.cons_append]
              refine go_iinc_9 e0_170 (z := 1) rfl ?_
              exfalso; omega
    have J81 : ∀ (p0 p1 p2 p3 : Int32), D4 p0 p1 p2 p3 → Go C 81 [.val (.int i0), .val (.int i1), .val (.int i2), .val (.int i3), .val (.int 3), .val (.int 2), .val (.int c6), .val (.ref 0), .unset, .unset, .unset, .unset, .unset, .unset, .unset, .unset, .unset, .unset] [] [ar .int [.int p0, .int p1, .int p2, .int p3]] 1 4 := by
      intro p0 p1 p2 p3 hD
      refine go_iconst e0_81 (x := 4) rfl ?_
      refine go_newarray e0_82 (wd 1 rfl) (k := 4) rfl (vs := [.int 0, .int 0, .int 0, .int 0]) rfl (cap := 4) (by decide) (by decide) (by decide) (by decide) ?_
      simp only [List.replicate_succ, List.replicate_zero, List.set_cons_zero, List.set_cons_succ, List.length_nil, List.length_cons, Nat.zero_add, Nat.reduceAdd, List.nil_append, List.cons_append]
      refine go_astore_8 e0_84 rfl rfl ?_
      refine go_iconst e0_86 (x := 0) rfl ?_
      refine go_istore_9 e0_87 rfl ?_
      exact J3 _ _ _ _ hD
    have J2 : ∀ (p0 p1 p2 p3 : Int32), D4 p0 p1 p2 p3 → Go C 68 [.val (.int i0), .val (.int i1), .val (.int i2), .val (.int i3), .val (.int 3), .val (.int 2), .val (.int c6), .val (.ref 0), .unset, .unset, .unset, .unset, .unset, .unset, .unset, .unset, .unset, .unset] [] [ar .int [.int p0, .int p1, .int p2, .int p3]] 1 4 := by
      intro p0 p1 p2 p3 hD
      refine go_aload e0_68 rfl rfl ?_
      refine go_iconst e0_70 (x := 1) rfl ?_
      refine go_iload e0_71 rfl ?_
      refine go_bipush e0_73 (x := 12) rfl ?_
      refine go_idiv e0_75 (by decide) ?_
      refine go_iconst e0_76 (x := 2) rfl ?_
      refine go_irem e0_77 (by decide) ?_
      have he : (c6 / 12 % 2).toInt = 0 ∨ (c6 / 12 % 2).toInt = 1 := by
        have h0 := (c_idiv c6 12 12 (by decide) (by decide)).1 hc0
        have h1 := (c_irem (c6 / 12) 2 2 (by decide)).1 (by omega)
        omega
      rcases he with e | e
      · refine go_staticV_3 e0_78 (wd 2 rfl) (wd 3 rfl) (wd 5 rfl) (wd 4 rfl) hy_1 pd_9 rfl (c_swap hw (i := 1) (j := 0) rfl (by decide) e rfl rfl) rfl 0 rfl (by decide) (by decide) (by decide) (by decide) ?_
        rintro _ rfl
        try simp only [List.replicate_succ, List.replicate_zero, List.set_cons_zero, List.set_cons_succ, List.length_nil, List.length_cons, Nat.zero_add, Nat.reduceAdd, List.nil_append, List.cons_append]
        exact J81 p1 p0 p2 p3 (by unfold D4 at hD ⊢; omega)
      · refine go_staticV_3 e0_78 (wd 2 rfl) (wd 3 rfl) (wd 5 rfl) (wd 4 rfl) hy_1 pd_9 rfl (c_swap hw (i := 1) (j := 1) rfl (by decide) e rfl rfl) rfl 0 rfl (by decide) (by decide) (by decide) (by decide) ?_
        rintro _ rfl
        try simp only [List.replicate_succ, List.replicate_zero, List.set_cons_zero, List.set_cons_succ, List.length_nil, List.length_cons, Nat.zero_add, Nat.reduceAdd, List.nil_append, List.cons_append]
        exact J81 p0 p1 p2 p3 (by unfold D4 at hD ⊢; omega)
    have J1 : ∀ (p0 p1 p2 p3 : Int32), D4 p0 p1 p2 p3 → Go C 56 [.val (.int i0), .val (.int i1), .val (.int i2), .val (.int i3), .val (.int 3), .val (.int 2), .val (.int c6), .val (.ref 0), .unset, .unset, .unset, .unset, .unset, .unset, .unset, .unset, .unset, .unset] [] [ar .int [.int p0, .int p1, .int p2, .int p3]] 1 4 := by
      intro p0 p1 p2 p3 hD
      refine go_aload e0_56 rfl rfl ?_
      refine go_iconst e0_58 (x := 2) rfl ?_
      refine go_iload e0_59 rfl ?_
      refine go_iconst e0_61 (x := 4) rfl ?_
      refine go_idiv e0_62 (by decide) ?_
      refine go_iconst e0_63 (x := 3) rfl ?_
      refine go_irem e0_64 (by decide) ?_
      have he : (c6 / 4 % 3).toInt = 0 ∨ (c6 / 4 % 3).toInt = 1 ∨ (c6 / 4 % 3).toInt = 2 := by
        have h0 := (c_idiv c6 4 4 (by decide) (by decide)).1 hc0
        have h1 := (c_irem (c6 / 4) 3 3 (by decide)).1 (by omega)
        omega
      rcases he with e | e | e
      · refine go_staticV_3 e0_65 (wd 2 rfl) (wd 3 rfl) (wd 5 rfl) (wd 4 rfl) hy_1 pd_9 rfl (c_swap hw (i := 2) (j := 0) rfl (by decide) e rfl rfl) rfl 0 rfl (by decide) (by decide) (by decide) (by decide) ?_
        rintro _ rfl
        try simp only [List.replicate_succ, List.replicate_zero, List.set_cons_zero, List.set_cons_succ, List.length_nil, List.length_cons, Nat.zero_add, Nat.reduceAdd, List.nil_append, List.cons_append]
        exact J2 p2 p1 p0 p3 (by unfold D4 at hD ⊢; omega)
      · refine go_staticV_3 e0_65 (wd 2 rfl) (wd 3 rfl) (wd 5 rfl) (wd 4 rfl) hy_1 pd_9 rfl (c_swap hw (i := 2) (j := 1) rfl (by decide) e rfl rfl) rfl 0 rfl (by decide) (by decide) (by decide) (by decide) ?_
        rintro _ rfl
        try simp only [List.replicate_succ, List.replicate_zero, List.set_cons_zero, List.set_cons_succ, List.length_nil, List.length_cons, Nat.zero_add, Nat.reduceAdd, List.nil_append, List.cons_append]
        exact J2 p0 p2 p1 p3 (by unfold D4 at hD ⊢; omega)
      · refine go_staticV_3 e0_65 (wd 2 rfl) (wd 3 rfl) (wd 5 rfl) (wd 4 rfl) hy_1 pd_9 rfl (c_swap hw (i := 2) (j := 2) rfl (by decide) e rfl rfl) rfl 0 rfl (by decide) (by decide) (by decide) (by decide) ?_
        rintro _ rfl
        try simp only [List.replicate_succ, List.replicate_zero, List.set_cons_zero, List.set_cons_succ, List.length_nil, List.length_cons, Nat.zero_add, Nat.reduceAdd, List.nil_append, List.cons_append]
        exact J2 p0 p1 p2 p3 (by unfold D4 at hD ⊢; omega)
    refine go_iconst e0_25 (x := 4) rfl ?_
    refine go_newarray e0_26 (wd 1 rfl) (k := 4) rfl (vs := [.int 0, .int 0, .int 0, .int 0]) rfl (cap := 4) (by decide) (by decide) (by decide) (by decide) ?_
    simp only [List.replicate_succ, List.replicate_zero, List.set_cons_zero, List.set_cons_succ, List.length_nil, List.length_cons, Nat.zero_add, Nat.reduceAdd, List.nil_append, List.cons_append]
    refine go_dup e0_28 rfl ?_
    refine go_iconst e0_29 (x := 0) rfl ?_
    refine go_iconst e0_30 (x := 1) rfl ?_
    refine go_iastore e0_31 rfl (k := 0) (by decide) (Nat.le_of_ble_eq_true rfl) ?_
    simp only [List.replicate_succ, List.replicate_zero, List.set_cons_zero, List.set_cons_succ, List.length_nil, List.length_cons, Nat.zero_add, Nat.reduceAdd, List.nil_append, List.cons_append]
    refine go_dup e0_32 rfl ?_
    refine go_iconst e0_33 (x := 1) rfl ?_
    refine go_iconst e0_34 (x := 2) rfl ?_
    refine go_iastore e0_35 rfl (k := 1) (by decide) (Nat.le_of_ble_eq_true rfl) ?_
    simp only [List.replicate_succ, List.replicate_zero, List.set_cons_zero, List.set_cons_succ, List.length_nil, List.length_cons, Nat.zero_add, Nat.reduceAdd, List.nil_append, List.cons_append]
    refine go_dup e0_36 rfl ?_
    refine go_iconst e0_37 (x := 2) rfl ?_
    refine go_iconst e0_38 (x := 3) rfl ?_
    refine go_iastore e0_39 rfl (k := 2) (by decide) (Nat.le_of_ble_eq_true rfl) ?_
    simp only [List.replicate_succ, List.replicate_zero, List.set_cons_zero, List.set_cons_succ, List.length_nil, List.length_cons, Nat.zero_add, Nat.reduceAdd, List.nil_append, List.cons_append]
    refine go_dup e0_40 rfl ?_
    refine go_iconst e0_41 (x := 3) rfl ?_
    refine go_iconst e0_42 (x := 4) rfl ?_
    refine go_iastore e0_43 rfl (k := 3) (by decide) (Nat.le_of_ble_eq_true rfl) ?_
    simp only [List.replicate_succ, List.replicate_zero, List.set_cons_zero, List.set_cons_succ, List.length_nil, List.length_cons, Nat.zero_add, Nat.reduceAdd, List.nil_append, List.cons_append]
    refine go_astore_7 e0_44 rfl rfl ?_
    refine go_aload e0_46 rfl rfl ?_
    refine go_iconst e0_48 (x := 3) rfl ?_
    refine go_iload e0_49 rfl ?_
    refine go_iconst e0_51 (x := 4) rfl ?_
    refine go_irem e0_52 (by decide) ?_
    have he : (c6 % 4).toInt = 0 ∨ (c6 % 4).toInt = 1 ∨ (c6 % 4).toInt = 2 ∨ (c6 % 4).toInt = 3 := by
      have h1 := (c_irem c6 4 4 (by decide)).1 hc0
      omega
    rcases he with e | e | e | e
    · refine go_staticV_3 e0_53 (wd 2 rfl) (wd 3 rfl) (wd 5 rfl) (wd 4 rfl) hy_1 pd_9 rfl (c_swap hw (i := 3) (j := 0) rfl (by decide) e rfl rfl) rfl 0 rfl (by decide) (by decide) (by decide) (by decide) ?_
      rintro _ rfl
      try simp only [List.replicate_succ, List.replicate_zero, List.set_cons_zero, List.set_cons_succ, List.length_nil, List.length_cons, Nat.zero_add, Nat.reduceAdd, List.nil_append, List.cons_append]
      exact J1 4 2 3 1 (by decide)
    · refine go_staticV_3 e0_53 (wd 2 rfl) (wd 3 rfl) (wd 5 rfl) (wd 4 rfl) hy_1 pd_9 rfl (c_swap hw (i := 3) (j := 1) rfl (by decide) e rfl rfl) rfl 0 rfl (by decide) (by decide) (by decide) (by decide) ?_
      rintro _ rfl
      try simp only [List.replicate_succ, List.replicate_zero, List.set_cons_zero, List.set_cons_succ, List.length_nil, List.length_cons, Nat.zero_add, Nat.reduceAdd, List.nil_append, List.cons_append]
      exact J1 1 4 3 2 (by decide)
    · refine go_staticV_3 e0_53 (wd 2 rfl) (wd 3 rfl) (wd 5 rfl) (wd 4 rfl) hy_1 pd_9 rfl (c_swap hw (i := 3) (j := 2) rfl (by decide) e rfl rfl) rfl 0 rfl (by decide) (by decide) (by decide) (by decide) ?_
      rintro _ rfl
      try simp only [List.replicate_succ, List.replicate_zero, List.set_cons_zero, List.set_cons_succ, List.length_nil, List.length_cons, Nat.zero_add, Nat.reduceAdd, List.nil_append, List.cons_append]
      exact J1 1 2 4 3 (by decide)
    · refine go_staticV_3 e0_53 (wd 2 rfl) (wd 3 rfl) (wd 5 rfl) (wd 4 rfl) hy_1 pd_9 rfl (c_swap hw (i := 3) (j := 3) rfl (by decide) e rfl rfl) rfl 0 rfl (by decide) (by decide) (by decide) (by decide) ?_
      rintro _ rfl
      try simp only [List.replicate_succ, List.replicate_zero, List.set_cons_zero, List.set_cons_succ, List.length_nil, List.length_cons, Nat.zero_add, Nat.reduceAdd, List.nil_append, List.cons_append]
      exact J1 1 2 3 4 (by decide)
  · obtain rfl : mm = 3 := hmm.trans (by decide)
    have J5 : ∀ (w1 w2 w3 : Int32) (ps rs : List Value) (k9 v10 : Int32) (n1 : ¬ w1 = 0) (n2 : ¬ w2 = 0) (n3 : ¬ w3 = 0) (hlt : w1.toInt < w3.toInt), Go C 259 [.val (.int i0), .val (.int i1), .val (.int i2), .val (.int i3), .val (.int 4), .val (.int 3), .val (.int c6), .val (.ref 0), .val (.ref 1), .val (.int k9), .val (.int v10), .val (.ref 2), .unset, .unset, .unset, .unset, .unset, .unset] [] [ar .int ps, ar .int rs, ar .int [.int 0, .int w1, .int w2, .int w3]] 3 12 := by
      intro w1 w2 w3 ps rs k9 v10 n1 n2 n3 hlt
      refine go_iloadN e0_259 rfl ?_
      refine go_ldc e0_260 (wd 0 rfl) ?_
      refine go_iand e0_262 ?_
      refine go_iload e0_263 rfl ?_
      refine go_irem e0_265 (by decide) ?_
      refine go_istoreX_12 e0_266 rfl ?_
      intro sx hsx
      have hcs : sx = 0 ∨ sx = 1 ∨ sx = 2 ∨ sx = 3 := by
        have e2 := (c_irem (i2 &&& 2147483647) 4 4 (by decide)).1 (c_and _ _ (by decide)).1
        have e3 : sx.toInt = 0 ∨ sx.toInt = 1 ∨ sx.toInt = 2 ∨ sx.toInt = 3 := by rw [hsx]; omega
        rcases e3 with e | e | e | e
        · exact Or.inl (Int32.toInt_inj.mp e)
        · exact Or.inr (Or.inl (Int32.toInt_inj.mp e))
        · exact Or.inr (Or.inr (Or.inl (Int32.toInt_inj.mp e)))
        · exact Or.inr (Or.inr (Or.inr (Int32.toInt_inj.mp e)))
      clear hsx
      rcases hcs with rfl | rfl | rfl | rfl
      · refine go_iloadN e0_268 rfl ?_
        refine go_iconst e0_269 (x := 1) rfl ?_
        refine go_iand e0_270 ?_
        refine go_ifeq e0_271 (tg := 278) (by decide) ?_ ?_
        · intro c271
          refine go_iconst e0_278 (x := 0) rfl ?_
          refine go_istore_13 e0_279 rfl ?_
          refine go_iload e0_281 rfl ?_
          refine go_newarray e0_283 (wd 1 rfl) (k := 4) rfl (vs := [.int 0, .int 0, .int 0, .int 0]) rfl (cap := 4) (by decide) (by decide) (by decide) (by decide) ?_
          simp only [List.replicate_succ, List.replicate_zero, List.set_cons_zero, List.set_cons_succ, List.length_nil, List.length_cons, Nat.zero_add, Nat.reduceAdd, List.nil_append, List.cons_append]
          refine go_astore_14 e0_285 rfl rfl ?_
          refine go_aload e0_287 rfl rfl ?_
          refine go_aload e0_289 rfl rfl ?_
          refine go_iload e0_291 rfl ?_
          refine go_iload e0_293 rfl ?_
          refine go_iload e0_295 rfl ?_
          refine go_iconst e0_297 (x := 0) rfl ?_
          refine go_staticV_6 e0_298 (wd 9 rfl) (wd 10 rfl) (wd 11 rfl) (wd 4 rfl) hy_1 pd_4 rfl (c_place1 hw (n := 4) (s1 := 0) (i := 0) (K := 0) rfl rfl (by decide) (by decide) (by decide) (by decide) (by decide) (by decide) (by decide) rfl (Nat.le_of_ble_eq_true rfl)) rfl 0 rfl (by decide) (by decide) (by decide) (by decide) ?_
          rintro _ rfl
          try simp only [List.replicate_succ, List.replicate_zero, List.set_cons_zero, List.set_cons_succ, List.length_nil, List.length_cons, Nat.zero_add, Nat.reduceAdd, List.nil_append, List.cons_append]
          refine go_aload e0_301 rfl rfl ?_
          refine go_aload e0_303 rfl rfl ?_
          refine go_iload e0_305 rfl ?_
          refine go_iload e0_307 rfl ?_
          refine go_iload e0_309 rfl ?_
          refine go_iconst e0_311 (x := 1) rfl ?_
          refine go_staticV_6 e0_312 (wd 9 rfl) (wd 10 rfl) (wd 11 rfl) (wd 4 rfl) hy_1 pd_4 rfl (c_place1 hw (n := 4) (s1 := 0) (i := 1) (K := 3) rfl rfl (by decide) (by decide) (by decide) (by decide) (by decide) (by decide) (by decide) rfl (Nat.le_of_ble_eq_true rfl)) rfl 0 rfl (by decide) (by decide) (by decide) (by decide) ?_
          rintro _ rfl
          try simp only [List.replicate_succ, List.replicate_zero, List.set_cons_zero, List.set_cons_succ, List.length_nil, List.length_cons, Nat.zero_add, Nat.reduceAdd, List.nil_append, List.cons_append]
          refine go_aload e0_315 rfl rfl ?_
          refine go_aload e0_317 rfl rfl ?_
          refine go_iload e0_319 rfl ?_
          refine go_iload e0_321 rfl ?_
          refine go_iload e0_323 rfl ?_
          refine go_iconst e0_325 (x := 2) rfl ?_
          refine go_staticV_6 e0_326 (wd 9 rfl) (wd 10 rfl) (wd 11 rfl) (wd 4 rfl) hy_1 pd_4 rfl (c_place1 hw (n := 4) (s1 := 0) (i := 2) (K := 2) rfl rfl (by decide) (by decide) (by decide) (by decide) (by decide) (by decide) (by decide) rfl (Nat.le_of_ble_eq_true rfl)) rfl 0 rfl (by decide) (by decide) (by decide) (by decide) ?_
          rintro _ rfl
          try simp only [List.replicate_succ, List.replicate_zero, List.set_cons_zero, List.set_cons_succ, List.length_nil, List.length_cons, Nat.zero_add, Nat.reduceAdd, List.nil_append, List.cons_append]
          refine go_aload e0_329 rfl rfl ?_
          refine go_aload e0_331 rfl rfl ?_
          refine go_iload e0_333 rfl ?_
          refine go_iload e0_335 rfl ?_
          refine go_iload e0_337 rfl ?_
          refine go_iconst e0_339 (x := 3) rfl ?_
          refine go_staticV_6 e0_340 (wd 9 rfl) (wd 10 rfl) (wd 11 rfl) (wd 4 rfl) hy_1 pd_4 rfl (c_place1 hw (n := 4) (s1 := 0) (i := 3) (K := 1) rfl rfl (by decide) (by decide) (by decide) (by decide) (by decide) (by decide) (by decide) rfl (Nat.le_of_ble_eq_true rfl)) rfl 0 rfl (by decide) (by decide) (by decide) (by decide) ?_
          rintro _ rfl
          try simp only [List.replicate_succ, List.replicate_zero, List.set_cons_zero, List.set_cons_succ, List.length_nil, List.length_cons, Nat.zero_add, Nat.reduceAdd, List.nil_append, List.cons_append]
          refine go_aload e0_343 rfl rfl ?_
          refine go_aload e0_345 rfl rfl ?_
          refine go_iload e0_347 rfl ?_
          refine go_iload e0_349 rfl ?_
          refine go_iload e0_351 rfl ?_
          refine go_iconst e0_353 (x := 4) rfl ?_
          refine go_staticV_6 e0_354 (wd 9 rfl) (wd 10 rfl) (wd 11 rfl) (wd 4 rfl) hy_1 pd_4 rfl (c_place0 hw (n := 4) (i := 4) (by decide) (by decide) (by decide)) rfl 0 rfl (by decide) (by decide) (by decide) (by decide) ?_
          rintro _ rfl
          try simp only [List.replicate_succ, List.replicate_zero, List.set_cons_zero, List.set_cons_succ, List.length_nil, List.length_cons, Nat.zero_add, Nat.reduceAdd, List.nil_append, List.cons_append]
          refine go_aload e0_357 rfl rfl ?_
          refine go_static_1 e0_359 (wd 15 rfl) (wd 16 rfl) (wd 18 rfl) (wd 17 rfl) hy_5 pd_6 rfl (c_norm hw (n := 4) (st := 0) (nn := 4) (va := w3) (vb := w1) rfl rfl (by decide) (by decide) (by intro v hv; simp only [List.mem_cons, List.not_mem_nil, or_false] at hv; rcases hv with rfl | rfl | rfl | rfl <;> exact ⟨_, rfl⟩) (by decide) rfl (fun j hj => absurd hj (Nat.not_lt_zero _)) rfl rfl) rfl 0 rfl (by decide) (by decide) (by decide) (by decide) ?_
          rintro _ _ ⟨rfl, out, rfl, hol, hout⟩
          rw [if_neg (by omega)] at hout
          have o0 : out[0]? = some (.int 0) := hout 0 (by decide)
          have o1 : out[1]? = some (.int w1) := hout 1 (by decide)
          have o2 : out[2]? = some (.int w2) := hout 2 (by decide)
          have o3 : out[3]? = some (.int w3) := hout 3 (by decide)
          try simp only [List.replicate_succ, List.replicate_zero, List.set_cons_zero, List.set_cons_succ, List.length_nil, List.length_cons, Nat.zero_add, Nat.reduceAdd, List.nil_append, List.cons_append]
          refine go_astore_15 e0_362 rfl rfl ?_
          refine go_aload e0_364 rfl rfl ?_
          refine go_aload e0_366 rfl rfl ?_
          refine go_acmp e0_368 rfl rfl (same := false) (by decide) (tg := 379) (by decide) ?_
          show Go C 371 _ _ _ _ _
          refine go_aload e0_371 rfl rfl ?_
          refine go_len e0_373 rfl (n := 4) (by rw [hol]; decide) ?_
          refine go_iload e0_374 rfl ?_
          refine go_iceqY e0_376 (tg := 381) (by decide) rfl ?_
          refine go_aload e0_381 rfl rfl ?_
          refine go_aload e0_383 rfl rfl ?_
          refine go_iload e0_385 rfl ?_
          refine go_iconst e0_387 (x := 0) rfl ?_
          refine go_iconst e0_388 (x := 1) rfl ?_
          refine go_iconst e0_389 (x := 0) rfl ?_
          refine go_static_6 e0_390 (wd 19 rfl) (wd 20 rfl) (wd 21 rfl) (wd 4 rfl) hy_1 pd_7 rfl (c_same1 hw (n := 4) (s1 := 0) (i := 0) (K := 0) rfl rfl (by decide) (by decide) (by decide) (by decide) (by decide) (by decide) (by decide) rfl o0) rfl 0 rfl (by decide) (by decide) (by decide) (by decide) ?_
          rintro _ _ ⟨rfl, rfl⟩
          try simp only [List.replicate_succ, List.replicate_zero, List.set_cons_zero, List.set_cons_succ, List.length_nil, List.length_cons, Nat.zero_add, Nat.reduceAdd, List.nil_append, List.cons_append]
          refine go_ifeqN e0_393 (tg := 460) (by decide) (by decide) ?_
          refine go_aload e0_396 rfl rfl ?_
          refine go_aload e0_398 rfl rfl ?_
          refine go_iload e0_400 rfl ?_
          refine go_iconst e0_402 (x := 0) rfl ?_
          refine go_iconst e0_403 (x := 1) rfl ?_
          refine go_iconst e0_404 (x := 1) rfl ?_
          refine go_static_6 e0_405 (wd 19 rfl) (wd 20 rfl) (wd 21 rfl) (wd 4 rfl) hy_1 pd_7 rfl (c_same1 hw (n := 4) (s1 := 0) (i := 1) (K := 1) rfl rfl (by decide) (by decide) (by decide) (by decide) (by decide) (by decide) (by decide) rfl o1) rfl 0 rfl (by decide) (by decide) (by decide) (by decide) ?_
          rintro _ _ ⟨rfl, rfl⟩
          try simp only [List.replicate_succ, List.replicate_zero, List.set_cons_zero, List.set_cons_succ, List.length_nil, List.length_cons, Nat.zero_add, Nat.reduceAdd, List.nil_append, List.cons_append]
          refine go_ifeqN e0_408 (tg := 460) (by decide) (by decide) ?_
          refine go_aload e0_411 rfl rfl ?_
          refine go_aload e0_413 rfl rfl ?_
          refine go_iload e0_415 rfl ?_
          refine go_iconst e0_417 (x := 0) rfl ?_
          refine go_iconst e0_418 (x := 1) rfl ?_
          refine go_iconst e0_419 (x := 2) rfl ?_
          refine go_static_6 e0_420 (wd 19 rfl) (wd 20 rfl) (wd 21 rfl) (wd 4 rfl) hy_1 pd_7 rfl (c_same1 hw (n := 4) (s1 := 0) (i := 2) (K := 2) rfl rfl (by decide) (by decide) (by decide) (by decide) (by decide) (by decide) (by decide) rfl o2) rfl 0 rfl (by decide) (by decide) (by decide) (by decide) ?_
          rintro _ _ ⟨rfl, rfl⟩
          try simp only [List.replicate_succ, List.replicate_zero, List.set_cons_zero, List.set_cons_succ, List.length_nil, List.length_cons, Nat.zero_add, Nat.reduceAdd, List.nil_append, List.cons_append]
          refine go_ifeqN e0_423 (tg := 460) (by decide) (by decide) ?_
          refine go_aload e0_426 rfl rfl ?_
          refine go_aload e0_428 rfl rfl ?_
          refine go_iload e0_430 rfl ?_
          refine go_iconst e0_432 (x := 0) rfl ?_
          refine go_iconst e0_433 (x := 1) rfl ?_
          refine go_iconst e0_434 (x := 3) rfl ?_
          refine go_static_6 e0_435 (wd 19 rfl) (wd 20 rfl) (wd 21 rfl) (wd 4 rfl) hy_1 pd_7 rfl (c_same1 hw (n := 4) (s1 := 0) (i := 3) (K := 3) rfl rfl (by decide) (by decide) (by decide) (by decide) (by decide) (by decide) (by decide) rfl o3) rfl 0 rfl (by decide) (by decide) (by decide) (by decide) ?_
          rintro _ _ ⟨rfl, rfl⟩
          try simp only [List.replicate_succ, List.replicate_zero, List.set_cons_zero, List.set_cons_succ, List.length_nil, List.length_cons, Nat.zero_add, Nat.reduceAdd, List.nil_append, List.cons_append]
          refine go_ifeqN e0_438 (tg := 460) (by decide) (by decide) ?_
          refine go_aload e0_441 rfl rfl ?_
          refine go_aload e0_443 rfl rfl ?_
          refine go_iload e0_445 rfl ?_
          refine go_iconst e0_447 (x := 0) rfl ?_
          refine go_iconst e0_448 (x := 1) rfl ?_
          refine go_iconst e0_449 (x := 4) rfl ?_
          refine go_static_6 e0_450 (wd 19 rfl) (wd 20 rfl) (wd 21 rfl) (wd 4 rfl) hy_1 pd_7 rfl (c_same0 hw (n := 4) (i := 4) (by decide) (by decide) (by decide)) rfl 0 rfl (by decide) (by decide) (by decide) (by decide) ?_
          rintro _ _ ⟨rfl, rfl⟩
          try simp only [List.replicate_succ, List.replicate_zero, List.set_cons_zero, List.set_cons_succ, List.length_nil, List.length_cons, Nat.zero_add, Nat.reduceAdd, List.nil_append, List.cons_append]
          refine go_ifeqN e0_453 (tg := 460) (by decide) (by decide) ?_
          refine go_iconst e0_456 (x := 1) rfl ?_
          refine go_goto e0_457 (tg := 461) (by decide) ?_
          refine go_istore_16 e0_461 rfl ?_
          refine go_aload e0_463 rfl rfl ?_
          refine go_aload e0_465 rfl rfl ?_
          refine go_iload e0_467 rfl ?_
          refine go_iload e0_469 rfl ?_
          refine go_iload e0_471 rfl ?_
          refine go_iconst e0_473 (x := 0) rfl ?_
          refine go_static_6 e0_474 (wd 19 rfl) (wd 20 rfl) (wd 21 rfl) (wd 4 rfl) hy_1 pd_7 rfl (c_same1 hw (n := 4) (s1 := 0) (i := 0) (K := 0) rfl rfl (by decide) (by decide) (by decide) (by decide) (by decide) (by decide) (by decide) rfl rfl) rfl 0 rfl (by decide) (by decide) (by decide) (by decide) ?_
          rintro _ _ ⟨rfl, rfl⟩
          try simp only [List.replicate_succ, List.replicate_zero, List.set_cons_zero, List.set_cons_succ, List.length_nil, List.length_cons, Nat.zero_add, Nat.reduceAdd, List.nil_append, List.cons_append]
          refine go_ifeqN e0_477 (tg := 552) (by decide) (by decide) ?_
          refine go_aload e0_480 rfl rfl ?_
          refine go_aload e0_482 rfl rfl ?_
          refine go_iload e0_484 rfl ?_
          refine go_iload e0_486 rfl ?_
          refine go_iload e0_488 rfl ?_
          refine go_iconst e0_490 (x := 1) rfl ?_
          refine go_static_6 e0_491 (wd 19 rfl) (wd 20 rfl) (wd 21 rfl) (wd 4 rfl) hy_1 pd_7 rfl (c_same1 hw (n := 4) (s1 := 0) (i := 1) (K := 3) rfl rfl (by decide) (by decide) (by decide) (by decide) (by decide) (by decide) (by decide) rfl rfl) rfl 0 rfl (by decide) (by decide) (by decide) (by decide) ?_
          rintro _ _ ⟨rfl, rfl⟩
          try simp only [List.replicate_succ, List.replicate_zero, List.set_cons_zero, List.set_cons_succ, List.length_nil, List.length_cons, Nat.zero_add, Nat.reduceAdd, List.nil_append, List.cons_append]
          refine go_ifeqN e0_494 (tg := 552) (by decide) (by decide) ?_
          refine go_aload e0_497 rfl rfl ?_
          refine go_aload e0_499 rfl rfl ?_
          refine go_iload e0_501 rfl ?_
          refine go_iload e0_503 rfl ?_
          refine go_iload e0_505 rfl ?_
          refine go_iconst e0_507 (x := 2) rfl ?_
          refine go_static_6 e0_508 (wd 19 rfl) (wd 20 rfl) (wd 21 rfl) (wd 4 rfl) hy_1 pd_7 rfl (c_same1 hw (n := 4) (s1 := 0) (i := 2) (K := 2) rfl rfl (by decide) (by decide) (by decide) (by decide) (by decide) (by decide) (by decide) rfl rfl) rfl 0 rfl (by decide) (by decide) (by decide) (by decide) ?_
          rintro _ _ ⟨rfl, rfl⟩
          try simp only [List.replicate_succ, List.replicate_zero, List.set_cons_zero, List.set_cons_succ, List.length_nil, List.length_cons, Nat.zero_add, Nat.reduceAdd, List.nil_append, List.cons_append]
          refine go_ifeqN e0_511 (tg := 552) (by decide) (by decide) ?_
          refine go_aload e0_514 rfl rfl ?_
          refine go_aload e0_516 rfl rfl ?_
          refine go_iload e0_518 rfl ?_
          refine go_iload e0_520 rfl ?_
          refine go_iload e0_522 rfl ?_
          refine go_iconst e0_524 (x := 3) rfl ?_
          refine go_static_6 e0_525 (wd 19 rfl) (wd 20 rfl) (wd 21 rfl) (wd 4 rfl) hy_1 pd_7 rfl (c_same1 hw (n := 4) (s1 := 0) (i := 3) (K := 1) rfl rfl (by decide) (by decide) (by decide) (by decide) (by decide) (by decide) (by decide) rfl rfl) rfl 0 rfl (by decide) (by decide) (by decide) (by decide) ?_
          rintro _ _ ⟨rfl, rfl⟩
          try simp only [List.replicate_succ, List.replicate_zero, List.set_cons_zero, List.set_cons_succ, List.length_nil, List.length_cons, Nat.zero_add, Nat.reduceAdd, List.nil_append, List.cons_append]
          refine go_ifeqN e0_528 (tg := 552) (by decide) (by decide) ?_
          refine go_aload e0_531 rfl rfl ?_
          refine go_aload e0_533 rfl rfl ?_
          refine go_iload e0_535 rfl ?_
          refine go_iload e0_537 rfl ?_
          refine go_iload e0_539 rfl ?_
          refine go_iconst e0_541 (x := 4) rfl ?_
          refine go_static_6 e0_542 (wd 19 rfl) (wd 20 rfl) (wd 21 rfl) (wd 4 rfl) hy_1 pd_7 rfl (c_same0 hw (n := 4) (i := 4) (by decide) (by decide) (by decide)) rfl 0 rfl (by decide) (by decide) (by decide) (by decide) ?_
          rintro _ _ ⟨rfl, rfl⟩
          try simp only [List.replicate_succ, List.replicate_zero, List.set_cons_zero, List.set_cons_succ, List.length_nil, List.length_cons, Nat.zero_add, Nat.reduceAdd, List.nil_append, List.cons_append]
          refine go_ifeqN e0_545 (tg := 552) (by decide) (by decide) ?_
          refine go_iconst e0_548 (x := 1) rfl ?_
          refine go_goto e0_549 (tg := 553) (by decide) ?_
          refine go_istore_17 e0_553 rfl ?_
          refine go_iload e0_555 rfl ?_
          refine go_ifeqN e0_557 (tg := 569) (by decide) (by decide) ?_
          refine go_iload e0_560 rfl ?_
          refine go_ifeqN e0_562 (tg := 569) (by decide) (by decide) ?_
          refine go_iconst e0_565 (x := 1) rfl ?_
          refine go_goto e0_566 (tg := 570) (by decide) ?_
          refine go_zreturn e0_570 rfl (by decide) (by decide) (by decide) ?_
          exact rfl
        · intro c271
          refine go_iconst e0_274 (x := 1) rfl ?_
          refine go_goto e0_275 (tg := 279) (by decide) ?_
          refine go_istore_13 e0_279 rfl ?_
          refine go_iload e0_281 rfl ?_
          refine go_newarray e0_283 (wd 1 rfl) (k := 4) rfl (vs := [.int 0, .int 0, .int 0, .int 0]) rfl (cap := 4) (by decide) (by decide) (by decide) (by decide) ?_
          simp only [List.replicate_succ, List.replicate_zero, List.set_cons_zero, List.set_cons_succ, List.length_nil, List.length_cons, Nat.zero_add, Nat.reduceAdd, List.nil_append, List.cons_append]
          refine go_astore_14 e0_285 rfl rfl ?_
          refine go_aload e0_287 rfl rfl ?_
          refine go_aload e0_289 rfl rfl ?_
          refine go_iload e0_291 rfl ?_
          refine go_iload e0_293 rfl ?_
          refine go_iload e0_295 rfl ?_
          refine go_iconst e0_297 (x := 0) rfl ?_
          refine go_staticV_6 e0_298 (wd 9 rfl) (wd 10 rfl) (wd 11 rfl) (wd 4 rfl) hy_1 pd_4 rfl (c_place1 hw (n := 4) (s1 := 0) (i := 0) (K := 0) rfl rfl (by decide) (by decide) (by decide) (by decide) (by decide) (by decide) (by decide) rfl (Nat.le_of_ble_eq_true rfl)) rfl 0 rfl (by decide) (by decide) (by decide) (by decide) ?_
          rintro _ rfl
          try simp only [List.replicate_succ, List.replicate_zero, List.set_cons_zero, List.set_cons_succ, List.length_nil, List.length_cons, Nat.zero_add, Nat.reduceAdd, List.nil_append, List.cons_append]
          refine go_aload e0_301 rfl rfl ?_
          refine go_aload e0_303 rfl rfl ?_
          refine go_iload e0_305 rfl ?_
          refine go_iload e0_307 rfl ?_
          refine go_iload e0_309 rfl ?_
          refine go_iconst e0_311 (x := 1) rfl ?_
          refine go_staticV_6 e0_312 (wd 9 rfl) (wd 10 rfl) (wd 11 rfl) (wd 4 rfl) hy_1 pd_4 rfl (c_place1 hw (n := 4) (s1 := 0) (i := 1) (K := 1) rfl rfl (by decide) (by decide) (by decide) (by decide) (by decide) (by decide) (by decide) rfl (Nat.le_of_ble_eq_true rfl)) rfl 0 rfl (by decide) (by decide) (by decide) (by decide) ?_
          rintro _ rfl
          try simp only [List.replicate_succ, List.replicate_zero, List.set_cons_zero, List.set_cons_succ, List.length_nil, List.length_cons, Nat.zero_add, Nat.reduceAdd, List.nil_append, List.cons_append]
          refine go_aload e0_315 rfl rfl ?_
          refine go_aload e0_317 rfl rfl ?_
          refine go_iload e0_319 rfl ?_
          refine go_iload e0_321 rfl ?_
          refine go_iload e0_323 rfl ?_
          refine go_iconst e0_325 (x := 2) rfl ?_
          refine go_staticV_6 e0_326 (wd 9 rfl) (wd 10 rfl) (wd 11 rfl) (wd 4 rfl) hy_1 pd_4 rfl (c_place1 hw (n := 4) (s1 := 0) (i := 2) (K := 2) rfl rfl (by decide) (by decide) (by decide) (by decide) (by decide) (by decide) (by decide) rfl (Nat.le_of_ble_eq_true rfl)) rfl 0 rfl (by decide) (by decide) (by decide) (by decide) ?_
          rintro _ rfl
          try simp only [List.replicate_succ, List.replicate_zero, List.set_cons_zero, List.set_cons_succ, List.length_nil, List.length_cons, Nat.zero_add, Nat.reduceAdd, List.nil_append, List.cons_append]
          refine go_aload e0_329 rfl rfl ?_
          refine go_aload e0_331 rfl rfl ?_
          refine go_iload e0_333 rfl ?_
          refine go_iload e0_335 rfl ?_
          refine go_iload e0_337 rfl ?_
          refine go_iconst e0_339 (x := 3) rfl ?_
          refine go_staticV_6 e0_340 (wd 9 rfl) (wd 10 rfl) (wd 11 rfl) (wd 4 rfl) hy_1 pd_4 rfl (c_place1 hw (n := 4) (s1 := 0) (i := 3) (K := 3) rfl rfl (by decide) (by decide) (by decide) (by decide) (by decide) (by decide) (by decide) rfl (Nat.le_of_ble_eq_true rfl)) rfl 0 rfl (by decide) (by decide) (by decide) (by decide) ?_
          rintro _ rfl
          try simp only [List.replicate_succ, List.replicate_zero, List.set_cons_zero, List.set_cons_succ, List.length_nil, List.length_cons, Nat.zero_add, Nat.reduceAdd, List.nil_append, List.cons_append]
          refine go_aload e0_343 rfl rfl ?_
          refine go_aload e0_345 rfl rfl ?_
          refine go_iload e0_347 rfl ?_
          refine go_iload e0_349 rfl ?_
          refine go_iload e0_351 rfl ?_
          refine go_iconst e0_353 (x := 4) rfl ?_
          refine go_staticV_6 e0_354 (wd 9 rfl) (wd 10 rfl) (wd 11 rfl) (wd 4 rfl) hy_1 pd_4 rfl (c_place0 hw (n := 4) (i := 4) (by decide) (by decide) (by decide)) rfl 0 rfl (by decide) (by decide) (by decide) (by decide) ?_
          rintro _ rfl
          try simp only [List.replicate_succ, List.replicate_zero, List.set_cons_zero, List.set_cons_succ, List.length_nil, List.length_cons, Nat.zero_add, Nat.reduceAdd, List.nil_append, List.cons_append]
          refine go_aload e0_357 rfl rfl ?_
          refine go_static_1 e0_359 (wd 15 rfl) (wd 16 rfl) (wd 18 rfl) (wd 17 rfl) hy_5 pd_6 rfl (c_norm hw (n := 4) (st := 0) (nn := 4) (va := w1) (vb := w3) rfl rfl (by decide) (by decide) (by intro v hv; simp only [List.mem_cons, List.not_mem_nil, or_false] at hv; rcases hv with rfl | rfl | rfl | rfl <;> exact ⟨_, rfl⟩) (by decide) rfl (fun j hj => absurd hj (Nat.not_lt_zero _)) rfl rfl) rfl 0 rfl (by decide) (by decide) (by decide) (by decide) ?_
          rintro _ _ ⟨rfl, out, rfl, hol, hout⟩
          rw [if_pos (by omega)] at hout
          have o0 : out[0]? = some (.int 0) := hout 0 (by decide)
          have o1 : out[1]? = some (.int w1) := hout 1 (by decide)
          have o2 : out[2]? = some (.int w2) := hout 2 (by decide)
          have o3 : out[3]? = some (.int w3) := hout 3 (by decide)
          try simp only [List.replicate_succ, List.replicate_zero, List.set_cons_zero, List.set_cons_succ, List.length_nil, List.length_cons, Nat.zero_add, Nat.reduceAdd, List.nil_append, List.cons_append]
          refine go_astore_15 e0_362 rfl rfl ?_
          refine go_aload e0_364 rfl rfl ?_
          refine go_aload e0_366 rfl rfl ?_
          refine go_acmp e0_368 rfl rfl (same := false) (by decide) (tg := 379) (by decide) ?_
          show Go C 371 _ _ _ _ _
          refine go_aload e0_371 rfl rfl ?_
          refine go_len e0_373 rfl (n := 4) (by rw [hol]; decide) ?_
          refine go_iload e0_374 rfl ?_
          refine go_iceqY e0_376 (tg := 381) (by decide) rfl ?_
          refine go_aload e0_381 rfl rfl ?_
          refine go_aload e0_383 rfl rfl ?_
          refine go_iload e0_385 rfl ?_
          refine go_iconst e0_387 (x := 0) rfl ?_
          refine go_iconst e0_388 (x := 1) rfl ?_
          refine go_iconst e0_389 (x := 0) rfl ?_
          refine go_static_6 e0_390 (wd 19 rfl) (wd 20 rfl) (wd 21 rfl) (wd 4 rfl) hy_1 pd_7 rfl (c_same1 hw (n := 4) (s1 := 0) (i := 0) (K := 0) rfl rfl (by decide) (by decide) (by decide) (by decide) (by decide) (by decide) (by decide) rfl o0) rfl 0 rfl (by decide) (by decide) (by decide) (by decide) ?_
          rintro _ _ ⟨rfl, rfl⟩
          try simp only [List.replicate_succ, List.replicate_zero, List.set_cons_zero, List.set_cons_succ, List.length_nil, List.length_cons, Nat.zero_add, Nat.reduceAdd, List.nil_append, List.cons_append]
          refine go_ifeqN e0_393 (tg := 460) (by decide) (by decide) ?_
          refine go_aload e0_396 rfl rfl ?_
          refine go_aload e0_398 rfl rfl ?_
          refine go_iload e0_400 rfl ?_
          refine go_iconst e0_402 (x := 0) rfl ?_
          refine go_iconst e0_403 (x := 1) rfl ?_
          refine go_iconst e0_404 (x := 1) rfl ?_
          refine go_static_6 e0_405 (wd 19 rfl) (wd 20 rfl) (wd 21 rfl) (wd 4 rfl) hy_1 pd_7 rfl (c_same1 hw (n := 4) (s1 := 0) (i := 1) (K := 1) rfl rfl (by decide) (by decide) (by decide) (by decide) (by decide) (by decide) (by decide) rfl o1) rfl 0 rfl (by decide) (by decide) (by decide) (by decide) ?_
          rintro _ _ ⟨rfl, rfl⟩
          try simp only [List.replicate_succ, List.replicate_zero, List.set_cons_zero, List.set_cons_succ, List.length_nil, List.length_cons, Nat.zero_add, Nat.reduceAdd, List.nil_append, List.cons_append]
          refine go_ifeqN e0_408 (tg := 460) (by decide) (by decide) ?_
          refine go_aload e0_411 rfl rfl ?_
          refine go_aload e0_413 rfl rfl ?_
          refine go_iload e0_415 rfl ?_
          refine go_iconst e0_417 (x := 0) rfl ?_
          refine go_iconst e0_418 (x := 1) rfl ?_
          refine go_iconst e0_419 (x := 2) rfl ?_
          refine go_static_6 e0_420 (wd 19 rfl) (wd 20 rfl) (wd 21 rfl) (wd 4 rfl) hy_1 pd_7 rfl (c_same1 hw (n := 4) (s1 := 0) (i := 2) (K := 2) rfl rfl (by decide) (by decide) (by decide) (by decide) (by decide) (by decide) (by decide) rfl o2) rfl 0 rfl (by decide) (by decide) (by decide) (by decide) ?_
          rintro _ _ ⟨rfl, rfl⟩
          try simp only [List.replicate_succ, List.replicate_zero, List.set_cons_zero, List.set_cons_succ, List.length_nil, List.length_cons, Nat.zero_add, Nat.reduceAdd, List.nil_append, List.cons_append]
          refine go_ifeqN e0_423 (tg := 460) (by decide) (by decide) ?_
          refine go_aload e0_426 rfl rfl ?_
          refine go_aload e0_428 rfl rfl ?_
          refine go_iload e0_430 rfl ?_
          refine go_iconst e0_432 (x := 0) rfl ?_
          refine go_iconst e0_433 (x := 1) rfl ?_
          refine go_iconst e0_434 (x := 3) rfl ?_
          refine go_static_6 e0_435 (wd 19 rfl) (wd 20 rfl) (wd 21 rfl) (wd 4 rfl) hy_1 pd_7 rfl (c_same1 hw (n := 4) (s1 := 0) (i := 3) (K := 3) rfl rfl (by decide) (by decide) (by decide) (by decide) (by decide) (by decide) (by decide) rfl o3) rfl 0 rfl (by decide) (by decide) (by decide) (by decide) ?_
          rintro _ _ ⟨rfl, rfl⟩
          try simp only [List.replicate_succ, List.replicate_zero, List.set_cons_zero, List.set_cons_succ, List.length_nil, List.length_cons, Nat.zero_add, Nat.reduceAdd, List.nil_append, List.cons_append]
          refine go_ifeqN e0_438 (tg := 460) (by decide) (by decide) ?_
          refine go_aload e0_441 rfl rfl ?_
          refine go_aload e0_443 rfl rfl ?_
          refine go_iload e0_445 rfl ?_
          refine go_iconst e0_447 (x := 0) rfl ?_
          refine go_iconst e0_448 (x := 1) rfl ?_
          refine go_iconst e0_449 (x := 4) rfl ?_
          refine go_static_6 e0_450 (wd 19 rfl) (wd 20 rfl) (wd 21 rfl) (wd 4 rfl) hy_1 pd_7 rfl (c_same0 hw (n := 4) (i := 4) (by decide) (by decide) (by decide)) rfl 0 rfl (by decide) (by decide) (by decide) (by decide) ?_
          rintro _ _ ⟨rfl, rfl⟩
          try simp only [List.replicate_succ, List.replicate_zero, List.set_cons_zero, List.set_cons_succ, List.length_nil, List.length_cons, Nat.zero_add, Nat.reduceAdd, List.nil_append, List.cons_append]
          refine go_ifeqN e0_453 (tg := 460) (by decide) (by decide) ?_
          refine go_iconst e0_456 (x := 1) rfl ?_
          refine go_goto e0_457 (tg := 461) (by decide) ?_
          refine go_istore_16 e0_461 rfl ?_
          refine go_aload e0_463 rfl rfl ?_
          refine go_aload e0_465 rfl rfl ?_
          refine go_iload e0_467 rfl ?_
          refine go_iload e0_469 rfl ?_
          refine go_iload e0_471 rfl ?_
          refine go_iconst e0_473 (x := 0) rfl ?_
          refine go_static_6 e0_474 (wd 19 rfl) (wd 20 rfl) (wd 21 rfl) (wd 4 rfl) hy_1 pd_7 rfl (c_same1 hw (n := 4) (s1 := 0) (i := 0) (K := 0) rfl rfl (by decide) (by decide) (by decide) (by decide) (by decide) (by decide) (by decide) rfl rfl) rfl 0 rfl (by decide) (by decide) (by decide) (by decide) ?_
          rintro _ _ ⟨rfl, rfl⟩
          try simp only [List.replicate_succ, List.replicate_zero, List.set_cons_zero, List.set_cons_succ, List.length_nil, List.length_cons, Nat.zero_add, Nat.reduceAdd, List.nil_append, List.cons_append]
          refine go_ifeqN e0_477 (tg := 552) (by decide) (by decide) ?_
          refine go_aload e0_480 rfl rfl ?_
          refine go_aload e0_482 rfl rfl ?_
          refine go_iload e0_484 rfl ?_
          refine go_iload e0_486 rfl ?_
          refine go_iload e0_488 rfl ?_
          refine go_iconst e0_490 (x := 1) rfl ?_
          refine go_static_6 e0_491 (wd 19 rfl) (wd 20 rfl) (wd 21 rfl) (wd 4 rfl) hy_1 pd_7 rfl (c_same1 hw (n := 4) (s1 := 0) (i := 1) (K := 1) rfl rfl (by decide) (by decide) (by decide) (by decide) (by decide) (by decide) (by decide) rfl rfl) rfl 0 rfl (by decide) (by decide) (by decide) (by decide) ?_
          rintro _ _ ⟨rfl, rfl⟩
          try simp only [List.replicate_succ, List.replicate_zero, List.set_cons_zero, List.set_cons_succ, List.length_nil, List.length_cons, Nat.zero_add, Nat.reduceAdd, List.nil_append, List.cons_append]
          refine go_ifeqN e0_494 (tg := 552) (by decide) (by decide) ?_
          refine go_aload e0_497 rfl rfl ?_
          refine go_aload e0_499 rfl rfl ?_
          refine go_iload e0_501 rfl ?_
          refine go_iload e0_503 rfl ?_
          refine go_iload e0_505 rfl ?_
          refine go_iconst e0_507 (x := 2) rfl ?_
          refine go_static_6 e0_508 (wd 19 rfl) (wd 20 rfl) (wd 21 rfl) (wd 4 rfl) hy_1 pd_7 rfl (c_same1 hw (n := 4) (s1 := 0) (i := 2) (K := 2) rfl rfl (by decide) (by decide) (by decide) (by decide) (by decide) (by decide) (by decide) rfl rfl) rfl 0 rfl (by decide) (by decide) (by decide) (by decide) ?_
          rintro _ _ ⟨rfl, rfl⟩
          try simp only [List.replicate_succ, List.replicate_zero, List.set_cons_zero, List.set_cons_succ, List.length_nil, List.length_cons, Nat.zero_add, Nat.reduceAdd, List.nil_append, List.cons_append]
          refine go_ifeqN e0_511 (tg := 552) (by decide) (by decide) ?_
          refine go_aload e0_514 rfl rfl ?_
          refine go_aload e0_516 rfl rfl ?_
          refine go_iload e0_518 rfl ?_
          refine go_iload e0_520 rfl ?_
          refine go_iload e0_522 rfl ?_
          refine go_iconst e0_524 (x := 3) rfl ?_
          refine go_static_6 e0_525 (wd 19 rfl) (wd 20 rfl) (wd 21 rfl) (wd 4 rfl) hy_1 pd_7 rfl (c_same1 hw (n := 4) (s1 := 0) (i := 3) (K := 3) rfl rfl (by decide) (by decide) (by decide) (by decide) (by decide) (by decide) (by decide) rfl rfl) rfl 0 rfl (by decide) (by decide) (by decide) (by decide) ?_
          rintro _ _ ⟨rfl, rfl⟩
          try simp only [List.replicate_succ, List.replicate_zero, List.set_cons_zero, List.set_cons_succ, List.length_nil, List.length_cons, Nat.zero_add, Nat.reduceAdd, List.nil_append, List.cons_append]
          refine go_ifeqN e0_528 (tg := 552) (by decide) (by decide) ?_
          refine go_aload e0_531 rfl rfl ?_
          refine go_aload e0_533 rfl rfl ?_
          refine go_iload e0_535 rfl ?_
          refine go_iload e0_537 rfl ?_
          refine go_iload e0_539 rfl ?_
          refine go_iconst e0_541 (x := 4) rfl ?_
          refine go_static_6 e0_542 (wd 19 rfl) (wd 20 rfl) (wd 21 rfl) (wd 4 rfl) hy_1 pd_7 rfl (c_same0 hw (n := 4) (i := 4) (by decide) (by decide) (by decide)) rfl 0 rfl (by decide) (by decide) (by decide) (by decide) ?_
          rintro _ _ ⟨rfl, rfl⟩
          try simp only [List.replicate_succ, List.replicate_zero, List.set_cons_zero, List.set_cons_succ, List.length_nil, List.length_cons, Nat.zero_add, Nat.reduceAdd, List.nil_append, List.cons_append]
          refine go_ifeqN e0_545 (tg := 552) (by decide) (by decide) ?_
          refine go_iconst e0_548 (x := 1) rfl ?_
          refine go_goto e0_549 (tg := 553) (by decide) ?_
          refine go_istore_17 e0_553 rfl ?_
          refine go_iload e0_555 rfl ?_
          refine go_ifeqN e0_557 (tg := 569) (by decide) (by decide) ?_
          refine go_iload e0_560 rfl ?_
          refine go_ifeqN e0_562 (tg := 569) (by decide) (by decide) ?_
          refine go_iconst e0_565 (x := 1) rfl ?_
          refine go_goto e0_566 (tg := 570) (by decide) ?_
          refine go_zreturn e0_570 rfl (by decide) (by decide) (by decide) ?_
          exact rfl
      · refine go_iloadN e0_268 rfl ?_
        refine go_iconst e0_269 (x := 1) rfl ?_
        refine go_iand e0_270 ?_
        refine go_ifeq e0_271 (tg := 278) (by decide) ?_ ?_
        · intro c271
          refine go_iconst e0_278 (x := 0) rfl ?_
          refine go_istore_13 e0_279 rfl ?_
          refine go_iload e0_281 rfl ?_
          refine go_newarray e0_283 (wd 1 rfl) (k := 4) rfl (vs := [.int 0, .int 0, .int 0, .int 0]) rfl (cap := 4) (by decide) (by decide) (by decide) (by decide) ?_
          simp only [List.replicate_succ, List.replicate_zero, List.set_cons_zero, List.set_cons_succ, List.length_nil, List.length_cons, Nat.zero_add, Nat.reduceAdd, List.nil_append, List.cons_append]
          refine go_astore_14 e0_285 rfl rfl ?_
          refine go_aload e0_287 rfl rfl ?_
          refine go_aload e0_289 rfl rfl ?_
          refine go_iload e0_291 rfl ?_
          refine go_iload e0_293 rfl ?_
          refine go_iload e0_295 rfl ?_
          refine go_iconst e0_297 (x := 0) rfl ?_
          refine go_staticV_6 e0_298 (wd 9 rfl) (wd 10 rfl) (wd 11 rfl) (wd 4 rfl) hy_1 pd_4 rfl (c_place1 hw (n := 4) (s1 := 1) (i := 0) (K := 1) rfl rfl (by decide) (by decide) (by decide) (by decide) (by decide) (by decide) (by decide) rfl (Nat.le_of_ble_eq_true rfl)) rfl 0 rfl (by decide) (by decide) (by decide) (by decide) ?_
          rintro _ rfl
          try simp only [List.replicate_succ, List.replicate_zero, List.set_cons_zero, List.set_cons_succ, List.length_nil, List.length_cons, Nat.zero_add, Nat.reduceAdd, List.nil_append, List.cons_append]
          refine go_aload e0_301 rfl rfl ?_
          refine go_aload e0_303 rfl rfl ?_
          refine go_iload e0_305 rfl ?_
          refine go_iload e0_307 rfl ?_
          refine go_iload e0_309 rfl ?_
          refine go_iconst e0_311 (x := 1) rfl ?_
          refine go_staticV_6 e0_312 (wd 9 rfl) (wd 10 rfl) (wd 11 rfl) (wd 4 rfl) hy_1 pd_4 rfl (c_place1 hw (n := 4) (s1 := 1) (i := 1) (K := 0) rfl rfl (by decide) (by decide) (by decide) (by decide) (by decide) (by decide) (by decide) rfl (Nat.le_of_ble_eq_true rfl)) rfl 0 rfl (by decide) (by decide) (by decide) (by decide) ?_
          rintro _ rfl
          try simp only [List.replicate_succ, List.replicate_zero, List.set_cons_zero, List.set_cons_succ, List.length_nil, List.length_cons, Nat.zero_add, Nat.reduceAdd, List.nil_append, List.cons_append]
          refine go_aload e0_315 rfl rfl ?_
          refine go_aload e0_317 rfl rfl ?_
          refine go_iload e0_319 rfl ?_
          refine go_iload e0_321 rfl ?_
          refine go_iload e0_323 rfl ?_
          refine go_iconst e0_325 (x := 2) rfl ?_
          refine go_staticV_6 e0_326 (wd 9 rfl) (wd 10 rfl) (wd 11 rfl) (wd 4 rfl) hy_1 pd_4 rfl (c_place1 hw (n := 4) (s1 := 1) (i := 2) (K := 3) rfl rfl (by decide) (by decide) (by decide) (by decide) (by decide) (by decide) (by decide) rfl (Nat.le_of_ble_eq_true rfl)) rfl 0 rfl (by decide) (by decide) (by decide) (by decide) ?_
          rintro _ rfl
          try simp only [List.replicate_succ, List.replicate_zero, List.set_cons_zero, List.set_cons_succ, List.length_nil, List.length_cons, Nat.zero_add, Nat.reduceAdd, List.nil_append, List.cons_append]
          refine go_aload e0_329 rfl rfl ?_
          refine go_aload e0_331 rfl rfl ?_
          refine go_iload e0_333 rfl ?_
          refine go_iload e0_335 rfl ?_
          refine go_iload e0_337 rfl ?_
          refine go_iconst e0_339 (x := 3) rfl ?_
          refine go_staticV_6 e0_340 (wd 9 rfl) (wd 10 rfl) (wd 11 rfl) (wd 4 rfl) hy_1 pd_4 rfl (c_place1 hw (n := 4) (s1 := 1) (i := 3) (K := 2) rfl rfl (by decide) (by decide) (by decide) (by decide) (by decide) (by decide) (by decide) rfl (Nat.le_of_ble_eq_true rfl)) rfl 0 rfl (by decide) (by decide) (by decide) (by decide) ?_
          rintro _ rfl
          try simp only [List.replicate_succ, List.replicate_zero, List.set_cons_zero, List.set_cons_succ, List.length_nil, List.length_cons, Nat.zero_add, Nat.reduceAdd, List.nil_append, List.cons_append]
          refine go_aload e0_343 rfl rfl ?_
          refine go_aload e0_345 rfl rfl ?_
          refine go_iload e0_347 rfl ?_
          refine go_iload e0_349 rfl ?_
          refine go_iload e0_351 rfl ?_
          refine go_iconst e0_353 (x := 4) rfl ?_
          refine go_staticV_6 e0_354 (wd 9 rfl) (wd 10 rfl) (wd 11 rfl) (wd 4 rfl) hy_1 pd_4 rfl (c_place0 hw (n := 4) (i := 4) (by decide) (by decide) (by decide)) rfl 0 rfl (by decide) (by decide) (by decide) (by decide) ?_
          rintro _ rfl
          try simp only [List.replicate_succ, List.replicate_zero, List.set_cons_zero, List.set_cons_succ, List.length_nil, List.length_cons, Nat.zero_add, Nat.reduceAdd, List.nil_append, List.cons_append]
          refine go_aload e0_357 rfl rfl ?_
          refine go_static_1 e0_359 (wd 15 rfl) (wd 16 rfl) (wd 18 rfl) (wd 17 rfl) hy_5 pd_6 rfl (c_norm hw (n := 4) (st := 1) (nn := 4) (va := w3) (vb := w1) rfl rfl (by decide) (by decide) (by intro v hv; simp only [List.mem_cons, List.not_mem_nil, or_false] at hv; rcases hv with rfl | rfl | rfl | rfl <;> exact ⟨_, rfl⟩) (by decide) rfl (fun j hj => by
              have hj2 : j = 0 := by omega
              subst hj2
              exact ⟨_, rfl, n1⟩) rfl rfl) rfl 0 rfl (by decide) (by decide) (by decide) (by decide) ?_
          rintro _ _ ⟨rfl, out, rfl, hol, hout⟩
          rw [if_neg (by omega)] at hout
          have o0 : out[0]? = some (.int 0) := hout 0 (by decide)
          have o1 : out[1]? = some (.int w1) := hout 1 (by decide)
          have o2 : out[2]? = some (.int w2) := hout 2 (by decide)
          have o3 : out[3]? = some (.int w3) := hout 3 (by decide)
          try simp only [List.replicate_succ, List.replicate_zero, List.set_cons_zero, List.set_cons_succ, List.length_nil, List.length_cons, Nat.zero_add, Nat.reduceAdd, List.nil_append, List.cons_append]
          refine go_astore_15 e0_362 rfl rfl ?_
          refine go_aload e0_364 rfl rfl ?_
          refine go_aload e0_366 rfl rfl ?_
          refine go_acmp e0_368 rfl rfl (same := false) (by decide) (tg := 379) (by decide) ?_
          show Go C 371 _ _ _ _ _
          refine go_aload e0_371 rfl rfl ?_
          refine go_len e0_373 rfl (n := 4) (by rw [hol]; decide) ?_
          refine go_iload e0_374 rfl ?_
          refine go_iceqY e0_376 (tg := 381) (by decide) rfl ?_
          refine go_aload e0_381 rfl rfl ?_
          refine go_aload e0_383 rfl rfl ?_
          refine go_iload e0_385 rfl ?_
          refine go_iconst e0_387 (x := 0) rfl ?_
          refine go_iconst e0_388 (x := 1) rfl ?_
          refine go_iconst e0_389 (x := 0) rfl ?_
          refine go_static_6 e0_390 (wd 19 rfl) (wd 20 rfl) (wd 21 rfl) (wd 4 rfl) hy_1 pd_7 rfl (c_same1 hw (n := 4) (s1 := 0) (i := 0) (K := 0) rfl rfl (by decide) (by decide) (by decide) (by decide) (by decide) (by decide) (by decide) rfl o0) rfl 0 rfl (by decide) (by decide) (by decide) (by decide) ?_
          rintro _ _ ⟨rfl, rfl⟩
          try simp only [List.replicate_succ, List.replicate_zero, List.set_cons_zero, List.set_cons_succ, List.length_nil, List.length_cons, Nat.zero_add, Nat.reduceAdd, List.nil_append, List.cons_append]
          refine go_ifeqN e0_393 (tg := 460) (by decide) (by decide) ?_
          refine go_aload e0_396 rfl rfl ?_
          refine go_aload e0_398 rfl rfl ?_
          refine go_iload e0_400 rfl ?_
          refine go_iconst e0_402 (x := 0) rfl ?_
          refine go_iconst e0_403 (x := 1) rfl ?_
          refine go_iconst e0_404 (x := 1) rfl ?_
          refine go_static_6 e0_405 (wd 19 rfl) (wd 20 rfl) (wd 21 rfl) (wd 4 rfl) hy_1 pd_7 rfl (c_same1 hw (n := 4) (s1 := 0) (i := 1) (K := 1) rfl rfl (by decide) (by decide) (by decide) (by decide) (by decide) (by decide) (by decide) rfl o1) rfl 0 rfl (by decide) (by decide) (by decide) (by decide) ?_
          rintro _ _ ⟨rfl, rfl⟩
          try simp only [List.replicate_succ, List.replicate_zero, List.set_cons_zero, List.set_cons_succ, List.length_nil, List.length_cons, Nat.zero_add, Nat.reduceAdd, List.nil_append, List.cons_append]
          refine go_ifeqN e0_408 (tg := 460) (by decide) (by decide) ?_
          refine go_aload e0_411 rfl rfl ?_
          refine go_aload e0_413 rfl rfl ?_
          refine go_iload e0_415 rfl ?_
          refine go_iconst e0_417 (x := 0) rfl ?_
          refine go_iconst e0_418 (x := 1) rfl ?_
          refine go_iconst e0_419 (x := 2) rfl ?_
          refine go_static_6 e0_420 (wd 19 rfl) (wd 20 rfl) (wd 21 rfl) (wd 4 rfl) hy_1 pd_7 rfl (c_same1 hw (n := 4) (s1 := 0) (i := 2) (K := 2) rfl rfl (by decide) (by decide) (by decide) (by decide) (by decide) (by decide) (by decide) rfl o2) rfl 0 rfl (by decide) (by decide) (by decide) (by decide) ?_
          rintro _ _ ⟨rfl, rfl⟩
          try simp only [List.replicate_succ, List.replicate_zero, List.set_cons_zero, List.set_cons_succ, List.length_nil, List.length_cons, Nat.zero_add, Nat.reduceAdd, List.nil_append, List.cons_append]
          refine go_ifeqN e0_423 (tg := 460) (by decide) (by decide) ?_
          refine go_aload e0_426 rfl rfl ?_
          refine go_aload e0_428 rfl rfl ?_
          refine go_iload e0_430 rfl ?_
          refine go_iconst e0_432 (x := 0) rfl ?_
          refine go_iconst e0_433 (x := 1) rfl ?_
          refine go_iconst e0_434 (x := 3) rfl ?_
          refine go_static_6 e0_435 (wd 19 rfl) (wd 20 rfl) (wd 21 rfl) (wd 4 rfl) hy_1 pd_7 rfl (c_same1 hw (n := 4) (s1 := 0) (i := 3) (K := 3) rfl rfl (by decide) (by decide) (by decide) (by decide) (by decide) (by decide) (by decide) rfl o3) rfl 0 rfl (by decide) (by decide) (by decide) (by decide) ?_
          rintro _ _ ⟨rfl, rfl⟩
          try simp only [List.replicate_succ, List.replicate_zero, List.set_cons_zero, List.set_cons_succ, List.length_nil, List.length_cons, Nat.zero_add, Nat.reduceAdd, List.nil_append, List.cons_append]
          refine go_ifeqN e0_438 (tg := 460) (by decide) (by decide) ?_
          refine go_aload e0_441 rfl rfl ?_
          refine go_aload e0_443 rfl rfl ?_
          refine go_iload e0_445 rfl ?_
          refine go_iconst e0_447 (x := 0) rfl ?_
          refine go_iconst e0_448 (x := 1) rfl ?_
          refine go_iconst e0_449 (x := 4) rfl ?_
          refine go_static_6 e0_450 (wd 19 rfl) (wd 20 rfl) (wd 21 rfl) (wd 4 rfl) hy_1 pd_7 rfl (c_same0 hw (n := 4) (i := 4) (by decide) (by decide) (by decide)) rfl 0 rfl (by decide) (by decide) (by decide) (by decide) ?_
          rintro _ _ ⟨rfl, rfl⟩
          try simp only [List.replicate_succ, List.replicate_zero, List.set_cons_zero, List.set_cons_succ, List.length_nil, List.length_cons, Nat.zero_add, Nat.reduceAdd, List.nil_append, List.cons_append]
          refine go_ifeqN e0_453 (tg := 460) (by decide) (by decide) ?_
          refine go_iconst e0_456 (x := 1) rfl ?_
          refine go_goto e0_457 (tg := 461) (by decide) ?_
          refine go_istore_16 e0_461 rfl ?_
          refine go_aload e0_463 rfl rfl ?_
          refine go_aload e0_465 rfl rfl ?_
          refine go_iload e0_467 rfl ?_
          refine go_iload e0_469 rfl ?_
          refine go_iload e0_471 rfl ?_
          refine go_iconst e0_473 (x := 0) rfl ?_
          refine go_static_6 e0_474 (wd 19 rfl) (wd 20 rfl) (wd 21 rfl) (wd 4 rfl) hy_1 pd_7 rfl (c_same1 hw (n := 4) (s1 := 1) (i := 0) (K := 1) rfl rfl (by decide) (by decide) (by decide) (by decide) (by decide) (by decide) (by decide) rfl rfl) rfl 0 rfl (by decide) (by decide) (by decide) (by decide) ?_
          rintro _ _ ⟨rfl, rfl⟩
          try simp only [List.replicate_succ, List.replicate_zero, List.set_cons_zero, List.set_cons_succ, List.length_nil, List.length_cons, Nat.zero_add, Nat.reduceAdd, List.nil_append, List.cons_append]
          refine go_ifeqN e0_477 (tg := 552) (by decide) (by decide) ?_
          refine go_aload e0_480 rfl rfl ?_
          refine go_aload e0_482 rfl rfl ?_
          refine go_iload e0_484 rfl ?_
          refine go_iload e0_486 rfl ?_
          refine go_iload e0_488 rfl ?_
          refine go_iconst e0_490 (x := 1) rfl ?_
          refine go_static_6 e0_491 (wd 19 rfl) (wd 20 rfl) (wd 21 rfl) (wd 4 rfl) hy_1 pd_7 rfl (c_same1 hw (n := 4) (s1 := 1) (i := 1) (K := 0) rfl rfl (by decide) (by decide) (by decide) (by decide) (by decide) (by decide) (by decide) rfl rfl) rfl 0 rfl (by decide) (by decide) (by decide) (by decide) ?_
          rintro _ _ ⟨rfl, rfl⟩
          try simp only [List.replicate_succ, List.replicate_zero, List.set_cons_zero, List.set_cons_succ, List.length_nil, List.length_cons, Nat.zero_add, Nat.reduceAdd, List.nil_append, List.cons_append]
          refine go_ifeqN e0_494 (tg := 552) (by decide) (by decide) ?_
          refine go_aload e0_497 rfl rfl ?_
          refine go_aload e0_499 rfl rfl ?_
          refine go_iload e0_501 rfl ?_
          refine go_iload e0_503 rfl ?_
          refine go_iload e0_505 rfl ?_
          refine go_iconst e0_507 (x := 2) rfl ?_
          refine go_static_6 e0_508 (wd 19 rfl) (wd 20 rfl) (wd 21 rfl) (wd 4 rfl) hy_1 pd_7 rfl (c_same1 hw (n := 4) (s1 := 1) (i := 2) (K := 3) rfl rfl (by decide) (by decide) (by decide) (by decide) (by decide) (by decide) (by decide) rfl rfl) rfl 0 rfl (by decide) (by decide) (by decide) (by decide) ?_
          rintro _ _ ⟨rfl, rfl⟩
          try simp only [List.replicate_succ, List.replicate_zero, List.set_cons_zero, List.set_cons_succ, List.length_nil, List.length_cons, Nat.zero_add, Nat.reduceAdd, List.nil_append, List.cons_append]
          refine go_ifeqN e0_511 (tg := 552) (by decide) (by decide) ?_
          refine go_aload e0_514 rfl rfl ?_
          refine go_aload e0_516 rfl rfl ?_
          refine go_iload e0_518 rfl ?_
          refine go_iload e0_520 rfl ?_
          refine go_iload e0_522 rfl ?_
          refine go_iconst e0_524 (x := 3) rfl ?_
          refine go_static_6 e0_525 (wd 19 rfl) (wd 20 rfl) (wd 21 rfl) (wd 4 rfl) hy_1 pd_7 rfl (c_same1 hw (n := 4) (s1 := 1) (i := 3) (K := 2) rfl rfl (by decide) (by decide) (by decide) (by decide) (by decide) (by decide) (by decide) rfl rfl) rfl 0 rfl (by decide) (by decide) (by decide) (by decide) ?_
          rintro _ _ ⟨rfl, rfl⟩
          try simp only [List.replicate_succ, List.replicate_zero, List.set_cons_zero, List.set_cons_succ, List.length_nil, List.length_cons, Nat.zero_add, Nat.reduceAdd, List.nil_append, List.cons_append]
          refine go_ifeqN e0_528 (tg := 552) (by decide) (by decide) ?_
          refine go_aload e0_531 rfl rfl ?_
          refine go_aload e0_533 rfl rfl ?_
          refine go_iload e0_535 rfl ?_
          refine go_iload e0_537 rfl ?_
          refine go_iload e0_539 rfl ?_
          refine go_iconst e0_541 (x := 4) rfl ?_
          refine go_static_6 e0_542 (wd 19 rfl) (wd 20 rfl) (wd 21 rfl) (wd 4 rfl) hy_1 pd_7 rfl (c_same0 hw (n := 4) (i := 4) (by decide) (by decide) (by decide)) rfl 0 rfl (by decide) (by decide) (by decide) (by decide) ?_
          rintro _ _ ⟨rfl, rfl⟩
          try simp only [List.replicate_succ, List.replicate_zero, List.set_cons_zero, List.set_cons_succ, List.length_nil, List.length_cons, Nat.zero_add, Nat.reduceAdd, List.nil_append, List.cons_append]
          refine go_ifeqN e0_545 (tg := 552) (by decide) (by decide) ?_
          refine go_iconst e0_548 (x := 1) rfl ?_
          refine go_goto e0_549 (tg := 553) (by decide) ?_
          refine go_istore_17 e0_553 rfl ?_
          refine go_iload e0_555 rfl ?_
          refine go_ifeqN e0_557 (tg := 569) (by decide) (by decide) ?_
          refine go_iload e0_560 rfl ?_
          refine go_ifeqN e0_562 (tg := 569) (by decide) (by decide) ?_
          refine go_iconst e0_565 (x := 1) rfl ?_
          refine go_goto e0_566 (tg := 570) (by decide) ?_
          refine go_zreturn e0_570 rfl (by decide) (by decide) (by decide) ?_
          exact rfl
        · intro c271
          refine go_iconst e0_274 (x := 1) rfl ?_
          refine go_goto e0_275 (tg := 279) (by decide) ?_
          refine go_istore_13 e0_279 rfl ?_
          refine go_iload e0_281 rfl ?_
          refine go_newarray e0_283 (wd 1 rfl) (k := 4) rfl (vs := [.int 0, .int 0, .int 0, .int 0]) rfl (cap := 4) (by decide) (by decide) (by decide) (by decide) ?_
          simp only [List.replicate_succ, List.replicate_zero, List.set_cons_zero, List.set_cons_succ, List.length_nil, List.length_cons, Nat.zero_add, Nat.reduceAdd, List.nil_append, List.cons_append]
          refine go_astore_14 e0_285 rfl rfl ?_
          refine go_aload e0_287 rfl rfl ?_
          refine go_aload e0_289 rfl rfl ?_
          refine go_iload e0_291 rfl ?_
          refine go_iload e0_293 rfl ?_
          refine go_iload e0_295 rfl ?_
          refine go_iconst e0_297 (x := 0) rfl ?_
          refine go_staticV_6 e0_298 (wd 9 rfl) (wd 10 rfl) (wd 11 rfl) (wd 4 rfl) hy_1 pd_4 rfl (c_place1 hw (n := 4) (s1 := 1) (i := 0) (K := 1) rfl rfl (by decide) (by decide) (by decide) (by decide) (by decide) (by decide) (by decide) rfl (Nat.le_of_ble_eq_true rfl)) rfl 0 rfl (by decide) (by decide) (by decide) (by decide) ?_
          rintro _ rfl
          try simp only [List.replicate_succ, List.replicate_zero, List.set_cons_zero, List.set_cons_succ, List.length_nil, List.length_cons, Nat.zero_add, Nat.reduceAdd, List.nil_append, List.cons_append]
          refine go_aload e0_301 rfl rfl ?_
          refine go_aload e0_303 rfl rfl ?_
          refine go_iload e0_305 rfl ?_
          refine go_iload e0_307 rfl ?_
          refine go_iload e0_309 rfl ?_
          refine go_iconst e0_311 (x := 1) rfl ?_
          refine go_staticV_6 e0_312 (wd 9 rfl) (wd 10 rfl) (wd 11 rfl) (wd 4 rfl) hy_1 pd_4 rfl (c_place1 hw (n := 4) (s1 := 1) (i := 1) (K := 2) rfl rfl (by decide) (by decide) (by decide) (by decide) (by decide) (by decide) (by decide) rfl (Nat.le_of_ble_eq_true rfl)) rfl 0 rfl (by decide) (by decide) (by decide) (by decide) ?_
          rintro _ rfl
          try simp only [List.replicate_succ, List.replicate_zero, List.set_cons_zero, List.set_cons_succ, List.length_nil, List.length_cons, Nat.zero_add, Nat.reduceAdd, List.nil_append, List.cons_append]
          refine go_aload e0_315 rfl rfl ?_
          refine go_aload e0_317 rfl rfl ?_
          refine go_iload e0_319 rfl ?_
          refine go_iload e0_321 rfl ?_
          refine go_iload e0_323 rfl ?_
          refine go_iconst e0_325 (x := 2) rfl ?_
          refine go_staticV_6 e0_326 (wd 9 rfl) (wd 10 rfl) (wd 11 rfl) (wd 4 rfl) hy_1 pd_4 rfl (c_place1 hw (n := 4) (s1 := 1) (i := 2) (K := 3) rfl rfl (by decide) (by decide) (by decide) (by decide) (by decide) (by decide) (by decide) rfl (Nat.le_of_ble_eq_true rfl)) rfl 0 rfl (by decide) (by decide) (by decide) (by decide) ?_
          rintro _ rfl
          try simp only [List.replicate_succ, List.replicate_zero, List.set_cons_zero, List.set_cons_succ, List.length_nil, List.length_cons, Nat.zero_add, Nat.reduceAdd, List.nil_append, List.cons_append]
          refine go_aload e0_329 rfl rfl ?_
          refine go_aload e0_331 rfl rfl ?_
          refine go_iload e0_333 rfl ?_
          refine go_iload e0_335 rfl ?_
          refine go_iload e0_337 rfl ?_
          refine go_iconst e0_339 (x := 3) rfl ?_
          refine go_staticV_6 e0_340 (wd 9 rfl) (wd 10 rfl) (wd 11 rfl) (wd 4 rfl) hy_1 pd_4 rfl (c_place1 hw (n := 4) (s1 := 1) (i := 3) (K := 0) rfl rfl (by decide) (by decide) (by decide) (by decide) (by decide) (by decide) (by decide) rfl (Nat.le_of_ble_eq_true rfl)) rfl 0 rfl (by decide) (by decide) (by decide) (by decide) ?_
          rintro _ rfl
          try simp only [List.replicate_succ, List.replicate_zero, List.set_cons_zero, List.set_cons_succ, List.length_nil, List.length_cons, Nat.zero_add, Nat.reduceAdd, List.nil_append, List.cons_append]
          refine go_aload e0_343 rfl rfl ?_
          refine go_aload e0_345 rfl rfl ?_
          refine go_iload e0_347 rfl ?_
          refine go_iload e0_349 rfl ?_
          refine go_iload e0_351 rfl ?_
          refine go_iconst e0_353 (x := 4) rfl ?_
          refine go_staticV_6 e0_354 (wd 9 rfl) (wd 10 rfl) (wd 11 rfl) (wd 4 rfl) hy_1 pd_4 rfl (c_place0 hw (n := 4) (i := 4) (by decide) (by decide) (by decide)) rfl 0 rfl (by decide) (by decide) (by decide) (by decide) ?_
          rintro _ rfl
          try simp only [List.replicate_succ, List.replicate_zero, List.set_cons_zero, List.set_cons_succ, List.length_nil, List.length_cons, Nat.zero_add, Nat.reduceAdd, List.nil_append, List.cons_append]
          refine go_aload e0_357 rfl rfl ?_
          refine go_static_1 e0_359 (wd 15 rfl) (wd 16 rfl) (wd 18 rfl) (wd 17 rfl) hy_5 pd_6 rfl (c_norm hw (n := 4) (st := 1) (nn := 4) (va := w1) (vb := w3) rfl rfl (by decide) (by decide) (by intro v hv; simp only [List.mem_cons, List.not_mem_nil, or_false] at hv; rcases hv with rfl | rfl | rfl | rfl <;> exact ⟨_, rfl⟩) (by decide) rfl (fun j hj => by
              have hj2 : j = 0 := by omega
              subst hj2
              exact ⟨_, rfl, n3⟩) rfl rfl) rfl 0 rfl (by decide) (by decide) (by decide) (by decide) ?_
          rintro _ _ ⟨rfl, out, rfl, hol, hout⟩
          rw [if_pos (by omega)] at hout
          have o0 : out[0]? = some (.int 0) := hout 0 (by decide)
          have o1 : out[1]? = some (.int w1) := hout 1 (by decide)
          have o2 : out[2]? = some (.int w2) := hout 2 (by decide)
          have o3 : out[3]? = some (.int w3) := hout 3 (by decide)
          try simp only [List.replicate_succ, List.replicate_zero, List.set_cons_zero, List.set_cons_succ, List.length_nil, List.length_cons, Nat.zero_add, Nat.reduceAdd, List.nil_append, List.cons_append]
          refine go_astore_15 e0_362 rfl rfl ?_
          refine go_aload e0_364 rfl rfl ?_
          refine go_aload e0_366 rfl rfl ?_
          refine go_acmp e0_368 rfl rfl (same := false) (by decide) (tg := 379) (by decide) ?_
          show Go C 371 _ _ _ _ _
          refine go_aload e0_371 rfl rfl ?_
          refine go_len e0_373 rfl (n := 4) (by rw [hol]; decide) ?_
          refine go_iload e0_374 rfl ?_
          refine go_iceqY e0_376 (tg := 381) (by decide) rfl ?_
          refine go_aload e0_381 rfl rfl ?_
          refine go_aload e0_383 rfl rfl ?_
          refine go_iload e0_385 rfl ?_
          refine go_iconst e0_387 (x := 0) rfl ?_
          refine go_iconst e0_388 (x := 1) rfl ?_
          refine go_iconst e0_389 (x := 0) rfl ?_
          refine go_static_6 e0_390 (wd 19 rfl) (wd 20 rfl) (wd 21 rfl) (wd 4 rfl) hy_1 pd_7 rfl (c_same1 hw (n := 4) (s1 := 0) (i := 0) (K := 0) rfl rfl (by decide) (by decide) (by decide) (by decide) (by decide) (by decide) (by decide) rfl o0) rfl 0 rfl (by decide) (by decide) (by decide) (by decide) ?_
          rintro _ _ ⟨rfl, rfl⟩
          try simp only [List.replicate_succ, List.replicate_zero, List.set_cons_zero, List.set_cons_succ, List.length_nil, List.length_cons, Nat.zero_add, Nat.reduceAdd, List.nil_append, List.cons_append]
          refine go_ifeqN e0_393 (tg := 460) (by decide) (by decide) ?_
          refine go_aload e0_396 rfl rfl ?_
          refine go_aload e0_398 rfl rfl ?_
          refine go_iload e0_400 rfl ?_
          refine go_iconst e0_402 (x := 0) rfl ?_
          refine go_iconst e0_403 (x := 1) rfl ?_
          refine go_iconst e0_404 (x := 1) rfl ?_
          refine go_static_6 e0_405 (wd 19 rfl) (wd 20 rfl) (wd 21 rfl) (wd 4 rfl) hy_1 pd_7 rfl (c_same1 hw (n := 4) (s1 := 0) (i := 1) (K := 1) rfl rfl (by decide) (by decide) (by decide) (by decide) (by decide) (by decide) (by decide) rfl o1) rfl 0 rfl (by decide) (by decide) (by decide) (by decide) ?_
          rintro _ _ ⟨rfl, rfl⟩
          try simp only [List.replicate_succ, List.replicate_zero, List.set_cons_zero, List.set_cons_succ, List.length_nil, List.length_cons, Nat.zero_add, Nat.reduceAdd, List.nil_append, List.cons_append]
          refine go_ifeqN e0_408 (tg := 460) (by decide) (by decide) ?_
          refine go_aload e0_411 rfl rfl ?_
          refine go_aload e0_413 rfl rfl ?_
          refine go_iload e0_415 rfl ?_
          refine go_iconst e0_417 (x := 0) rfl ?_
          refine go_iconst e0_418 (x := 1) rfl ?_
          refine go_iconst e0_419 (x := 2) rfl ?_
          refine go_static_6 e0_420 (wd 19 rfl) (wd 20 rfl) (wd 21 rfl) (wd 4 rfl) hy_1 pd_7 rfl (c_same1 hw (n := 4) (s1 := 0) (i := 2) (K := 2) rfl rfl (by decide) (by decide) (by decide) (by decide) (by decide) (by decide) (by decide) rfl o2) rfl 0 rfl (by decide) (by decide) (by decide) (by decide) ?_
          rintro _ _ ⟨rfl, rfl⟩
          try simp only [List.replicate_succ, List.replicate_zero, List.set_cons_zero, List.set_cons_succ, List.length_nil, List.length_cons, Nat.zero_add, Nat.reduceAdd, List.nil_append, List.cons_append]
          refine go_ifeqN e0_423 (tg := 460) (by decide) (by decide) ?_
          refine go_aload e0_426 rfl rfl ?_
          refine go_aload e0_428 rfl rfl ?_
          refine go_iload e0_430 rfl ?_
          refine go_iconst e0_432 (x := 0) rfl ?_
          refine go_iconst e0_433 (x := 1) rfl ?_
          refine go_iconst e0_434 (x := 3) rfl ?_
          refine go_static_6 e0_435 (wd 19 rfl) (wd 20 rfl) (wd 21 rfl) (wd 4 rfl) hy_1 pd_7 rfl (c_same1 hw (n := 4) (s1 := 0) (i := 3) (K := 3) rfl rfl (by decide) (by decide) (by decide) (by decide) (by decide) (by decide) (by decide) rfl o3) rfl 0 rfl (by decide) (by decide) (by decide) (by decide) ?_
          rintro _ _ ⟨rfl, rfl⟩
          try simp only [List.replicate_succ, List.replicate_zero, List.set_cons_zero, List.set_cons_succ, List.length_nil, List.length_cons, Nat.zero_add, Nat.reduceAdd, List.nil_append, List.cons_append]
          refine go_ifeqN e0_438 (tg := 460) (by decide) (by decide) ?_
          refine go_aload e0_441 rfl rfl ?_
          refine go_aload e0_443 rfl rfl ?_
          refine go_iload e0_445 rfl ?_
          refine go_iconst e0_447 (x := 0) rfl ?_
          refine go_iconst e0_448 (x := 1) rfl ?_
          refine go_iconst e0_449 (x := 4) rfl ?_
          refine go_static_6 e0_450 (wd 19 rfl) (wd 20 rfl) (wd 21 rfl) (wd 4 rfl) hy_1 pd_7 rfl (c_same0 hw (n := 4) (i := 4) (by decide) (by decide) (by decide)) rfl 0 rfl (by decide) (by decide) (by decide) (by decide) ?_
          rintro _ _ ⟨rfl, rfl⟩
          try simp only [List.replicate_succ, List.replicate_zero, List.set_cons_zero, List.set_cons_succ, List.length_nil, List.length_cons, Nat.zero_add, Nat.reduceAdd, List.nil_append, List.cons_append]
          refine go_ifeqN e0_453 (tg := 460) (by decide) (by decide) ?_
          refine go_iconst e0_456 (x := 1) rfl ?_
          refine go_goto e0_457 (tg := 461) (by decide) ?_
          refine go_istore_16 e0_461 rfl ?_
          refine go_aload e0_463 rfl rfl ?_
          refine go_aload e0_465 rfl rfl ?_
          refine go_iload e0_467 rfl ?_
          refine go_iload e0_469 rfl ?_
          refine go_iload e0_471 rfl ?_
          refine go_iconst e0_473 (x := 0) rfl ?_
          refine go_static_6 e0_474 (wd 19 rfl) (wd 20 rfl) (wd 21 rfl) (wd 4 rfl) hy_1 pd_7 rfl (c_same1 hw (n := 4) (s1 := 1) (i := 0) (K := 1) rfl rfl (by decide) (by decide) (by decide) (by decide) (by decide) (by decide) (by decide) rfl rfl) rfl 0 rfl (by decide) (by decide) (by decide) (by decide) ?_
          rintro _ _ ⟨rfl, rfl⟩
          try simp only [List.replicate_succ, List.replicate_zero, List.set_cons_zero, List.set_cons_succ, List.length_nil, List.length_cons, Nat.zero_add, Nat.reduceAdd, List.nil_append, List.cons_append]
          refine go_ifeqN e0_477 (tg := 552) (by decide) (by decide) ?_
          refine go_aload e0_480 rfl rfl ?_
          refine go_aload e0_482 rfl rfl ?_
          refine go_iload e0_484 rfl ?_
          refine go_iload e0_486 rfl ?_
          refine go_iload e0_488 rfl ?_
          refine go_iconst e0_490 (x := 1) rfl ?_
          refine go_static_6 e0_491 (wd 19 rfl) (wd 20 rfl) (wd 21 rfl) (wd 4 rfl) hy_1 pd_7 rfl (c_same1 hw (n := 4) (s1 := 1) (i := 1) (K := 2) rfl rfl (by decide) (by decide) (by decide) (by decide) (by decide) (by decide) (by decide) rfl rfl) rfl 0 rfl (by decide) (by decide) (by decide) (by decide) ?_
          rintro _ _ ⟨rfl, rfl⟩
          try simp only [List.replicate_succ, List.replicate_zero, List.set_cons_zero, List.set_cons_succ, List.length_nil, List.length_cons, Nat.zero_add, Nat.reduceAdd, List.nil_append, List.cons_append]
          refine go_ifeqN e0_494 (tg := 552) (by decide) (by decide) ?_
          refine go_aload e0_497 rfl rfl ?_
          refine go_aload e0_499 rfl rfl ?_
          refine go_iload e0_501 rfl ?_
          refine go_iload e0_503 rfl ?_
          refine go_iload e0_505 rfl ?_
          refine go_iconst e0_507 (x := 2) rfl ?_
          refine go_static_6 e0_508 (wd 19 rfl) (wd 20 rfl) (wd 21 rfl) (wd 4 rfl) hy_1 pd_7 rfl (c_same1 hw (n := 4) (s1 := 1) (i := 2) (K := 3) rfl rfl (by decide) (by decide) (by decide) (by decide) (by decide) (by decide) (by decide) rfl rfl) rfl 0 rfl (by decide) (by decide) (by decide) (by decide) ?_
          rintro _ _ ⟨rfl, rfl⟩
          try simp only [List.replicate_succ, List.replicate_zero, List.set_cons_zero, List.set_cons_succ, List.length_nil, List.length_cons, Nat.zero_add, Nat.reduceAdd, List.nil_append, List.cons_append]
          refine go_ifeqN e0_511 (tg := 552) (by decide) (by decide) ?_
          refine go_aload e0_514 rfl rfl ?_
          refine go_aload e0_516 rfl rfl ?_
          refine go_iload e0_518 rfl ?_
          refine go_iload e0_520 rfl ?_
          refine go_iload e0_522 rfl ?_
          refine go_iconst e0_524 (x := 3) rfl ?_
          refine go_static_6 e0_525 (wd 19 rfl) (wd 20 rfl) (wd 21 rfl) (wd 4 rfl) hy_1 pd_7 rfl (c_same1 hw (n := 4) (s1 := 1) (i := 3) (K := 0) rfl rfl (by decide) (by decide) (by decide) (by decide) (by decide) (by decide) (by decide) rfl rfl) rfl 0 rfl (by decide) (by decide) (by decide) (by decide) ?_
          rintro _ _ ⟨rfl, rfl⟩
          try simp only [List.replicate_succ, List.replicate_zero, List.set_cons_zero, List.set_cons_succ, List.length_nil, List.length_cons, Nat.zero_add, Nat.reduceAdd, List.nil_append, List.cons_append]
          refine go_ifeqN e0_528 (tg := 552) (by decide) (by decide) ?_
          refine go_aload e0_531 rfl rfl ?_
          refine go_aload e0_533 rfl rfl ?_
          refine go_iload e0_535 rfl ?_
          refine go_iload e0_537 rfl ?_
          refine go_iload e0_539 rfl ?_
          refine go_iconst e0_541 (x := 4) rfl ?_
          refine go_static_6 e0_542 (wd 19 rfl) (wd 20 rfl) (wd 21 rfl) (wd 4 rfl) hy_1 pd_7 rfl (c_same0 hw (n := 4) (i := 4) (by decide) (by decide) (by decide)) rfl 0 rfl (by decide) (by decide) (by decide) (by decide) ?_
          rintro _ _ ⟨rfl, rfl⟩
          try simp only [List.replicate_succ, List.replicate_zero, List.set_cons_zero, List.set_cons_succ, List.length_nil, List.length_cons, Nat.zero_add, Nat.reduceAdd, List.nil_append, List.cons_append]
          refine go_ifeqN e0_545 (tg := 552) (by decide) (by decide) ?_
          refine go_iconst e0_548 (x := 1) rfl ?_
          refine go_goto e0_549 (tg := 553) (by decide) ?_
          refine go_istore_17 e0_553 rfl ?_
          refine go_iload e0_555 rfl ?_
          refine go_ifeqN e0_557 (tg := 569) (by decide) (by decide) ?_
          refine go_iload e0_560 rfl ?_
          refine go_ifeqN e0_562 (tg := 569) (by decide) (by decide) ?_
          refine go_iconst e0_565 (x := 1) rfl ?_
          refine go_goto e0_566 (tg := 570) (by decide) ?_
          refine go_zreturn e0_570 rfl (by decide) (by decide) (by decide) ?_
          exact rfl
      · refine go_iloadN e0_268 rfl ?_
        refine go_iconst e0_269 (x := 1) rfl ?_
        refine go_iand e0_270 ?_
        refine go_ifeq e0_271 (tg := 278) (by decide) ?_ ?_
        · intro c271
          refine go_iconst e0_278 (x := 0) rfl ?_
          refine go_istore_13 e0_279 rfl ?_
          refine go_iload e0_281 rfl ?_
          refine go_newarray e0_283 (wd 1 rfl) (k := 4) rfl (vs := [.int 0, .int 0, .int 0, .int 0]) rfl (cap := 4) (by decide) (by decide) (by decide) (by decide) ?_
          simp only [List.replicate_succ, List.replicate_zero, List.set_cons_zero, List.set_cons_succ, List.length_nil, List.length_cons, Nat.zero_add, Nat.reduceAdd, List.nil_append, List.cons_append]
          refine go_astore_14 e0_285 rfl rfl ?_
          refine go_aload e0_287 rfl rfl ?_
          refine go_aload e0_289 rfl rfl ?_
          refine go_iload e0_291 rfl ?_
          refine go_iload e0_293 rfl ?_
          refine go_iload e0_295 rfl ?_
          refine go_iconst e0_297 (x := 0) rfl ?_
          refine go_staticV_6 e0_298 (wd 9 rfl) (wd 10 rfl) (wd 11 rfl) (wd 4 rfl) hy_1 pd_4 rfl (c_place1 hw (n := 4) (s1 := 2) (i := 0) (K := 2) rfl rfl (by decide) (by decide) (by decide) (by decide) (by decide) (by decide) (by decide) rfl (Nat.le_of_ble_eq_true rfl)) rfl 0 rfl (by decide) (by decide) (by decide) (by decide) ?_
          rintro _ rfl
          try simp only [List.replicate_succ, List.replicate_zero, List.set_cons_zero, List.set_cons_succ, List.length_nil, List.length_cons, Nat.zero_add, Nat.reduceAdd, List.nil_append, List.cons_append]
          refine go_aload e0_301 rfl rfl ?_
          refine go_aload e0_303 rfl rfl ?_
          refine go_iload e0_305 rfl ?_
          refine go_iload e0_307 rfl ?_
          refine go_iload e0_309 rfl ?_
          refine go_iconst e0_311 (x := 1) rfl ?_
          refine go_staticV_6 e0_312 (wd 9 rfl) (wd 10 rfl) (wd 11 rfl) (wd 4 rfl) hy_1 pd_4 rfl (c_place1 hw (n := 4) (s1 := 2) (i := 1) (K := 1) rfl rfl (by decide) (by decide) (by decide) (by decide) (by decide) (by decide) (by decide) rfl (Nat.le_of_ble_eq_true rfl)) rfl 0 rfl (by decide) (by decide) (by decide) (by decide) ?_
          rintro _ rfl
          try simp only [List.replicate_succ, List.replicate_zero, List.set_cons_zero, List.set_cons_succ, List.length_nil, List.length_cons, Nat.zero_add, Nat.reduceAdd, List.nil_append, List.cons_append]
          refine go_aload e0_315 rfl rfl ?_
          refine go_aload e0_317 rfl rfl ?_
          refine go_iload e0_319 rfl ?_
          refine go_iload e0_321 rfl ?_
          refine go_iload e0_323 rfl ?_
          refine go_iconst e0_325 (x := 2) rfl ?_
          refine go_staticV_6 e0_326 (wd 9 rfl) (wd 10 rfl) (wd 11 rfl) (wd 4 rfl) hy_1 pd_4 rfl (c_place1 hw (n := 4) (s1 := 2) (i := 2) (K := 0) rfl rfl (by decide) (by decide) (by decide) (by decide) (by decide) (by decide) (by decide) rfl (Nat.le_of_ble_eq_true rfl)) rfl 0 rfl (by decide) (by decide) (by decide) (by decide) ?_
          rintro _ rfl
          try simp only [List.replicate_succ, List.replicate_zero, List.set_cons_zero, List.set_cons_succ, List.length_nil, List.length_cons, Nat.zero_add, Nat.reduceAdd, List.nil_append, List.cons_append]
          refine go_aload e0_329 rfl rfl ?_
          refine go_aload e0_331 rfl rfl ?_
          refine go_iload e0_333 rfl ?_
          refine go_iload e0_335 rfl ?_
          refine go_iload e0_337 rfl ?_
          refine go_iconst e0_339 (x := 3) rfl ?_
          refine go_staticV_6 e0_340 (wd 9 rfl) (wd 10 rfl) (wd 11 rfl) (wd 4 rfl) hy_1 pd_4 rfl (c_place1 hw (n := 4) (s1 := 2) (i := 3) (K := 3) rfl rfl (by decide) (by decide) (by decide) (by decide) (by decide) (by decide) (by decide) rfl (Nat.le_of_ble_eq_true rfl)) rfl 0 rfl (by decide) (by decide) (by decide) (by decide) ?_
          rintro _ rfl
          try simp only [List.replicate_succ, List.replicate_zero, List.set_cons_zero, List.set_cons_succ, List.length_nil, List.length_cons, Nat.zero_add, Nat.reduceAdd, List.nil_append, List.cons_append]
          refine go_aload e0_343 rfl rfl ?_
          refine go_aload e0_345 rfl rfl ?_
          refine go_iload e0_347 rfl ?_
          refine go_iload e0_349 rfl ?_
          refine go_iload e0_351 rfl ?_
          refine go_iconst e0_353 (x := 4) rfl ?_
          refine go_staticV_6 e0_354 (wd 9 rfl) (wd 10 rfl) (wd 11 rfl) (wd 4 rfl) hy_1 pd_4 rfl (c_place0 hw (n := 4) (i := 4) (by decide) (by decide) (by decide)) rfl 0 rfl (by decide) (by decide) (by decide) (by decide) ?_
          rintro _ rfl
          try simp only [List.replicate_succ, List.replicate_zero, List.set_cons_zero, List.set_cons_succ, List.length_nil, List.length_cons, Nat.zero_add, Nat.reduceAdd, List.nil_append, List.cons_append]
          refine go_aload e0_357 rfl rfl ?_
          refine go_static_1 e0_359 (wd 15 rfl) (wd 16 rfl) (wd 18 rfl) (wd 17 rfl) hy_5 pd_6 rfl (c_norm hw (n := 4) (st := 2) (nn := 4) (va := w3) (vb := w1) rfl rfl (by decide) (by decide) (by intro v hv; simp only [List.mem_cons, List.not_mem_nil, or_false] at hv; rcases hv with rfl | rfl | rfl | rfl <;> exact ⟨_, rfl⟩) (by decide) rfl (fun j hj => by
              have hj2 : j = 0 ∨ j = 1 := by omega
              rcases hj2 with rfl | rfl
              · exact ⟨_, rfl, n2⟩
              · exact ⟨_, rfl, n1⟩) rfl rfl) rfl 0 rfl (by decide) (by decide) (by decide) (by decide) ?_
          rintro _ _ ⟨rfl, out, rfl, hol, hout⟩
          rw [if_neg (by omega)] at hout
          have o0 : out[0]? = some (.int 0) := hout 0 (by decide)
          have o1 : out[1]? = some (.int w1) := hout 1 (by decide)
          have o2 : out[2]? = some (.int w2) := hout 2 (by decide)
          have o3 : out[3]? = some (.int w3) := hout 3 (by decide)
          try simp only [List.replicate_succ, List.replicate_zero, List.set_cons_zero, List.set_cons_succ, List.length_nil, List.length_cons, Nat.zero_add, Nat.reduceAdd, List.nil_append, List.cons_append]
          refine go_astore_15 e0_362 rfl rfl ?_
          refine go_aload e0_364 rfl rfl ?_
          refine go_aload e0_366 rfl rfl ?_
          refine go_acmp e0_368 rfl rfl (same := false) (by decide) (tg := 379) (by decide) ?_
          show Go C 371 _ _ _ _ _
          refine go_aload e0_371 rfl rfl ?_
          refine go_len e0_373 rfl (n := 4) (by rw [hol]; decide) ?_
          refine go_iload e0_374 rfl ?_
          refine go_iceqY e0_376 (tg := 381) (by decide) rfl ?_
          refine go_aload e0_381 rfl rfl ?_
          refine go_aload e0_383 rfl rfl ?_
          refine go_iload e0_385 rfl ?_
          refine go_iconst e0_387 (x := 0) rfl ?_
          refine go_iconst e0_388 (x := 1) rfl ?_
          refine go_iconst e0_389 (x := 0) rfl ?_
          refine go_static_6 e0_390 (wd 19 rfl) (wd 20 rfl) (wd 21 rfl) (wd 4 rfl) hy_1 pd_7 rfl (c_same1 hw (n := 4) (s1 := 0) (i := 0) (K := 0) rfl rfl (by decide) (by decide) (by decide) (by decide) (by decide) (by decide) (by decide) rfl o0) rfl 0 rfl (by decide) (by decide) (by decide) (by decide) ?_
          rintro _ _ ⟨rfl, rfl⟩
          try simp only [List.replicate_succ, List.replicate_zero, List.set_cons_zero, List.set_cons_succ, List.length_nil, List.length_cons, Nat.zero_add, Nat.reduceAdd, List.nil_append, List.cons_append]
          refine go_ifeqN e0_393 (tg := 460) (by decide) (by decide) ?_
          refine go_aload e0_396 rfl rfl ?_
          refine go_aload e0_398 rfl rfl ?_
          refine go_iload e0_400 rfl ?_
          refine go_iconst e0_402 (x := 0) rfl ?_
          refine go_iconst e0_403 (x := 1) rfl ?_
          refine go_iconst e0_404 (x := 1) rfl ?_
          refine go_static_6 e0_405 (wd 19 rfl) (wd 20 rfl) (wd 21 rfl) (wd 4 rfl) hy_1 pd_7 rfl (c_same1 hw (n := 4) (s1 := 0) (i := 1) (K := 1) rfl rfl (by decide) (by decide) (by decide) (by decide) (by decide) (by decide) (by decide) rfl o1) rfl 0 rfl (by decide) (by decide) (by decide) (by decide) ?_
          rintro _ _ ⟨rfl, rfl⟩
          try simp only [List.replicate_succ, List.replicate_zero, List.set_cons_zero, List.set_cons_succ, List.length_nil, List.length_cons, Nat.zero_add, Nat.reduceAdd, List.nil_append, List.cons_append]
          refine go_ifeqN e0_408 (tg := 460) (by decide) (by decide) ?_
          refine go_aload e0_411 rfl rfl ?_
          refine go_aload e0_413 rfl rfl ?_
          refine go_iload e0_415 rfl ?_
          refine go_iconst e0_417 (x := 0) rfl ?_
          refine go_iconst e0_418 (x := 1) rfl ?_
          refine go_iconst e0_419 (x := 2) rfl ?_
          refine go_static_6 e0_420 (wd 19 rfl) (wd 20 rfl) (wd 21 rfl) (wd 4 rfl) hy_1 pd_7 rfl (c_same1 hw (n := 4) (s1 := 0) (i := 2) (K := 2) rfl rfl (by decide) (by decide) (by decide) (by decide) (by decide) (by decide) (by decide) rfl o2) rfl 0 rfl (by decide) (by decide) (by decide) (by decide) ?_
          rintro _ _ ⟨rfl, rfl⟩
          try simp only [List.replicate_succ, List.replicate_zero, List.set_cons_zero, List.set_cons_succ, List.length_nil, List.length_cons, Nat.zero_add, Nat.reduceAdd, List.nil_append, List.cons_append]
          refine go_ifeqN e0_423 (tg := 460) (by decide) (by decide) ?_
          refine go_aload e0_426 rfl rfl ?_
          refine go_aload e0_428 rfl rfl ?_
          refine go_iload e0_430 rfl ?_
          refine go_iconst e0_432 (x := 0) rfl ?_
          refine go_iconst e0_433 (x := 1) rfl ?_
          refine go_iconst e0_434 (x := 3) rfl ?_
          refine go_static_6 e0_435 (wd 19 rfl) (wd 20 rfl) (wd 21 rfl) (wd 4 rfl) hy_1 pd_7 rfl (c_same1 hw (n := 4) (s1 := 0) (i := 3) (K := 3) rfl rfl (by decide) (by decide) (by decide) (by decide) (by decide) (by decide) (by decide) rfl o3) rfl 0 rfl (by decide) (by decide) (by decide) (by decide) ?_
          rintro _ _ ⟨rfl, rfl⟩
          try simp only [List.replicate_succ, List.replicate_zero, List.set_cons_zero, List.set_cons_succ, List.length_nil, List.length_cons, Nat.zero_add, Nat.reduceAdd, List.nil_append, List.cons_append]
          refine go_ifeqN e0_438 (tg := 460) (by decide) (by decide) ?_
          refine go_aload e0_441 rfl rfl ?_
          refine go_aload e0_443 rfl rfl ?_
          refine go_iload e0_445 rfl ?_
          refine go_iconst e0_447 (x := 0) rfl ?_
          refine go_iconst e0_448 (x := 1) rfl ?_
          refine go_iconst e0_449 (x := 4) rfl ?_
          refine go_static_6 e0_450 (wd 19 rfl) (wd 20 rfl) (wd 21 rfl) (wd 4 rfl) hy_1 pd_7 rfl (c_same0 hw (n := 4) (i := 4) (by decide) (by decide) (by decide)) rfl 0 rfl (by decide) (by decide) (by decide) (by decide) ?_
          rintro _ _ ⟨rfl, rfl⟩
          try simp only [List.replicate_succ, List.replicate_zero, List.set_cons_zero, List.set_cons_succ, List.length_nil, List.length_cons, Nat.zero_add, Nat.reduceAdd, List.nil_append, List.cons_append]
          refine go_ifeqN e0_453 (tg := 460) (by decide) (by decide) ?_
          refine go_iconst e0_456 (x := 1) rfl ?_
          refine go_goto e0_457 (tg := 461) (by decide) ?_
          refine go_istore_16 e0_461 rfl ?_
          refine go_aload e0_463 rfl rfl ?_
          refine go_aload e0_465 rfl rfl ?_
          refine go_iload e0_467 rfl ?_
          refine go_iload e0_469 rfl ?_
          refine go_iload e0_471 rfl ?_
          refine go_iconst e0_473 (x := 0) rfl ?_
          refine go_static_6 e0_474 (wd 19 rfl) (wd 20 rfl) (wd 21 rfl) (wd 4 rfl) hy_1 pd_7 rfl (c_same1 hw (n := 4) (s1 := 2) (i := 0) (K := 2) rfl rfl (by decide) (by decide) (by decide) (by decide) (by decide) (by decide) (by decide) rfl rfl) rfl 0 rfl (by decide) (by decide) (by decide) (by decide) ?_
          rintro _ _ ⟨rfl, rfl⟩
          try simp only [List.replicate_succ, List.replicate_zero, List.set_cons_zero, List.set_cons_succ, List.length_nil, List.length_cons, Nat.zero_add, Nat.reduceAdd, List.nil_append, List.cons_append]
          refine go_ifeqN e0_477 (tg := 552) (by decide) (by decide) ?_
          refine go_aload e0_480 rfl rfl ?_
          refine go_aload e0_482 rfl rfl ?_
          refine go_iload e0_484 rfl ?_
          refine go_iload e0_486 rfl ?_
          refine go_iload e0_488 rfl ?_
          refine go_iconst e0_490 (x := 1) rfl ?_
          refine go_static_6 e0_491 (wd 19 rfl) (wd 20 rfl) (wd 21 rfl) (wd 4 rfl) hy_1 pd_7 rfl (c_same1 hw (n := 4) (s1 := 2) (i := 1) (K := 1) rfl rfl (by decide) (by decide) (by decide) (by decide) (by decide) (by decide) (by decide) rfl rfl) rfl 0 rfl (by decide) (by decide) (by decide) (by decide) ?_
          rintro _ _ ⟨rfl, rfl⟩
          try simp only [List.replicate_succ, List.replicate_zero, List.set_cons_zero, List.set_cons_succ, List.length_nil, List.length_cons, Nat.zero_add, Nat.reduceAdd, List.nil_append, List.cons_append]
          refine go_ifeqN e0_494 (tg := 552) (by decide) (by decide) ?_
          refine go_aload e0_497 rfl rfl ?_
          refine go_aload e0_499 rfl rfl ?_
          refine go_iload e0_501 rfl ?_
          refine go_iload e0_503 rfl ?_
          refine go_iload e0_505 rfl ?_
          refine go_iconst e0_507 (x := 2) rfl ?_
          refine go_static_6 e0_508 (wd 19 rfl) (wd 20 rfl) (wd 21 rfl) (wd 4 rfl) hy_1 pd_7 rfl (c_same1 hw (n := 4) (s1 := 2) (i := 2) (K := 0) rfl rfl (by decide) (by decide) (by decide) (by decide) (by decide) (by decide) (by decide) rfl rfl) rfl 0 rfl (by decide) (by decide) (by decide) (by decide) ?_
          rintro _ _ ⟨rfl, rfl⟩
          try simp only [List.replicate_succ, List.replicate_zero, List.set_cons_zero, List.set_cons_succ, List.length_nil, List.length_cons, Nat.zero_add, Nat.reduceAdd, List.nil_append, List.cons_append]
          refine go_ifeqN e0_511 (tg := 552) (by decide) (by decide) ?_
          refine go_aload e0_514 rfl rfl ?_
          refine go_aload e0_516 rfl rfl ?_
          refine go_iload e0_518 rfl ?_
          refine go_iload e0_520 rfl ?_
          refine go_iload e0_522 rfl ?_
          refine go_iconst e0_524 (x := 3) rfl ?_
          refine go_static_6 e0_525 (wd 19 rfl) (wd 20 rfl) (wd 21 rfl) (wd 4 rfl) hy_1 pd_7 rfl (c_same1 hw (n := 4) (s1 := 2) (i := 3) (K := 3) rfl rfl (by decide) (by decide) (by decide) (by decide) (by decide) (by decide) (by decide) rfl rfl) rfl 0 rfl (by decide) (by decide) (by decide) (by decide) ?_
          rintro _ _ ⟨rfl, rfl⟩
          try simp only [List.replicate_succ, List.replicate_zero, List.set_cons_zero, List.set_cons_succ, List.length_nil, List.length_cons, Nat.zero_add, Nat.reduceAdd, List.nil_append, List.cons_append]
          refine go_ifeqN e0_528 (tg := 552) (by decide) (by decide) ?_
          refine go_aload e0_531 rfl rfl ?_
          refine go_aload e0_533 rfl rfl ?_
          refine go_iload e0_535 rfl ?_
          refine go_iload e0_537 rfl ?_
          refine go_iload e0_539 rfl ?_
          refine go_iconst e0_541 (x := 4) rfl ?_
          refine go_static_6 e0_542 (wd 19 rfl) (wd 20 rfl) (wd 21 rfl) (wd 4 rfl) hy_1 pd_7 rfl (c_same0 hw (n := 4) (i := 4) (by decide) (by decide) (by decide)) rfl 0 rfl (by decide) (by decide) (by decide) (by decide) ?_
          rintro _ _ ⟨rfl, rfl⟩
          try simp only [List.replicate_succ, List.replicate_zero, List.set_cons_zero, List.set_cons_succ, List.length_nil, List.length_cons, Nat.zero_add, Nat.reduceAdd, List.nil_append, List.cons_append]
          refine go_ifeqN e0_545 (tg := 552) (by decide) (by decide) ?_
          refine go_iconst e0_548 (x := 1) rfl ?_
          refine go_goto e0_549 (tg := 553) (by decide) ?_
          refine go_istore_17 e0_553 rfl ?_
          refine go_iload e0_555 rfl ?_
          refine go_ifeqN e0_557 (tg := 569) (by decide) (by decide) ?_
          refine go_iload e0_560 rfl ?_
          refine go_ifeqN e0_562 (tg := 569) (by decide) (by decide) ?_
          refine go_iconst e0_565 (x := 1) rfl ?_
          refine go_goto e0_566 (tg := 570) (by decide) ?_
          refine go_zreturn e0_570 rfl (by decide) (by decide) (by decide) ?_
          exact rfl
        · intro c271
          refine go_iconst e0_274 (x := 1) rfl ?_
          refine go_goto e0_275 (tg := 279) (by decide) ?_
          refine go_istore_13 e0_279 rfl ?_
          refine go_iload e0_281 rfl ?_
          refine go_newarray e0_283 (wd 1 rfl) (k := 4) rfl (vs := [.int 0, .int 0, .int 0, .int 0]) rfl (cap := 4) (by decide) (by decide) (by decide) (by decide) ?_
          simp only [List.replicate_succ, List.replicate_zero, List.set_cons_zero, List.set_cons_succ, List.length_nil, List.length_cons, Nat.zero_add, Nat.reduceAdd, List.nil_append, List.cons_append]
          refine go_astore_14 e0_285 rfl rfl ?_
          refine go_aload e0_287 rfl rfl ?_
          refine go_aload e0_289 rfl rfl ?_
          refine go_iload e0_291 rfl ?_
          refine go_iload e0_293 rfl ?_
          refine go_iload e0_295 rfl ?_
          refine go_iconst e0_297 (x := 0) rfl ?_
          refine go_staticV_6 e0_298 (wd 9 rfl) (wd 10 rfl) (wd 11 rfl) (wd 4 rfl) hy_1 pd_4 rfl (c_place1 hw (n := 4) (s1 := 2) (i := 0) (K := 2) rfl rfl (by decide) (by decide) (by decide) (by decide) (by decide) (by decide) (by decide) rfl (Nat.le_of_ble_eq_true rfl)) rfl 0 rfl (by decide) (by decide) (by decide) (by decide) ?_
          rintro _ rfl
          try simp only [List.replicate_succ, List.replicate_zero, List.set_cons_zero, List.set_cons_succ, List.length_nil, List.length_cons, Nat.zero_add, Nat.reduceAdd, List.nil_append, List.cons_append]
          refine go_aload e0_301 rfl rfl ?_
          refine go_aload e0_303 rfl rfl ?_
          refine go_iload e0_305 rfl ?_
          refine go_iload e0_307 rfl ?_
          refine go_iload e0_309 rfl ?_
          refine go_iconst e0_311 (x := 1) rfl ?_
          refine go_staticV_6 e0_312 (wd 9 rfl) (wd 10 rfl) (wd 11 rfl) (wd 4 rfl) hy_1 pd_4 rfl (c_place1 hw (n := 4) (s1 := 2) (i := 1) (K := 3) rfl rfl (by decide) (by decide) (by decide) (by decide) (by decide) (by decide) (by decide) rfl (Nat.le_of_ble_eq_true rfl)) rfl 0 rfl (by decide) (by decide) (by decide) (by decide) ?_
          rintro _ rfl
          try simp only [List.replicate_succ, List.replicate_zero, List.set_cons_zero, List.set_cons_succ, List.length_nil, List.length_cons, Nat.zero_add, Nat.reduceAdd, List.nil_append, List.cons_append]
          refine go_aload e0_315 rfl rfl ?_
          refine go_aload e0_317 rfl rfl ?_
          refine go_iload e0_319 rfl ?_
          refine go_iload e0_321 rfl ?_
          refine go_iload e0_323 rfl ?_
          refine go_iconst e0_325 (x := 2) rfl ?_
          refine go_staticV_6 e0_326 (wd 9 rfl) (wd 10 rfl) (wd 11 rfl) (wd 4 rfl) hy_1 pd_4 rfl (c_place1 hw (n := 4) (s1 := 2) (i := 2) (K := 0) rfl rfl (by decide) (by decide) (by decide) (by decide) (by decide) (by decide) (by decide) rfl (Nat.le_of_ble_eq_true rfl)) rfl 0 rfl (by decide) (by decide) (by decide) (by decide) ?_
          rintro _ rfl
          try simp only [List.replicate_succ, List.replicate_zero, List.set_cons_zero, List.set_cons_succ, List.length_nil, List.length_cons, Nat.zero_add, Nat.reduceAdd, List.nil_append, List.cons_append]
          refine go_aload e0_329 rfl rfl ?_
          refine go_aload e0_331 rfl rfl ?_
          refine go_iload e0_333 rfl ?_
          refine go_iload e0_335 rfl ?_
          refine go_iload e0_337 rfl ?_
          refine go_iconst e0_339 (x := 3) rfl ?_
          refine go_staticV_6 e0_340 (wd 9 rfl) (wd 10 rfl) (wd 11 rfl) (wd 4 rfl) hy_1 pd_4 rfl (c_place1 hw (n := 4) (s1 := 2) (i := 3) (K := 1) rfl rfl (by decide) (by decide) (by decide) (by decide) (by decide) (by decide) (by decide) rfl (Nat.le_of_ble_eq_true rfl)) rfl 0 rfl (by decide) (by decide) (by decide) (by decide) ?_
          rintro _ rfl
          try simp only [List.replicate_succ, List.replicate_zero, List.set_cons_zero, List.set_cons_succ, List.length_nil, List.length_cons, Nat.zero_add, Nat.reduceAdd, List.nil_append, List.cons_append]
          refine go_aload e0_343 rfl rfl ?_
          refine go_aload e0_345 rfl rfl ?_
          refine go_iload e0_347 rfl ?_
          refine go_iload e0_349 rfl ?_
          refine go_iload e0_351 rfl ?_
          refine go_iconst e0_353 (x := 4) rfl ?_
          refine go_staticV_6 e0_354 (wd 9 rfl) (wd 10 rfl) (wd 11 rfl) (wd 4 rfl) hy_1 pd_4 rfl (c_place0 hw (n := 4) (i := 4) (by decide) (by decide) (by decide)) rfl 0 rfl (by decide) (by decide) (by decide) (by decide) ?_
          rintro _ rfl
          try simp only [List.replicate_succ, List.replicate_zero, List.set_cons_zero, List.set_cons_succ, List.length_nil, List.length_cons, Nat.zero_add, Nat.reduceAdd, List.nil_append, List.cons_append]
          refine go_aload e0_357 rfl rfl ?_
          refine go_static_1 e0_359 (wd 15 rfl) (wd 16 rfl) (wd 18 rfl) (wd 17 rfl) hy_5 pd_6 rfl (c_norm hw (n := 4) (st := 2) (nn := 4) (va := w1) (vb := w3) rfl rfl (by decide) (by decide) (by intro v hv; simp only [List.mem_cons, List.not_mem_nil, or_false] at hv; rcases hv with rfl | rfl | rfl | rfl <;> exact ⟨_, rfl⟩) (by decide) rfl (fun j hj => by
              have hj2 : j = 0 ∨ j = 1 := by omega
              rcases hj2 with rfl | rfl
              · exact ⟨_, rfl, n2⟩
              · exact ⟨_, rfl, n3⟩) rfl rfl) rfl 0 rfl (by decide) (by decide) (by decide) (by decide) ?_
          rintro _ _ ⟨rfl, out, rfl, hol, hout⟩
          rw [if_pos (by omega)] at hout
          have o0 : out[0]? = some (.int 0) := hout 0 (by decide)
          have o1 : out[1]? = some (.int w1) := hout 1 (by decide)
          have o2 : out[2]? = some (.int w2) := hout 2 (by decide)
          have o3 : out[3]? = some (.int w3) := hout 3 (by decide)
          try simp only [List.replicate_succ, List.replicate_zero, List.set_cons_zero, List.set_cons_succ, List.length_nil, List.length_cons, Nat.zero_add, Nat.reduceAdd, List.nil_append, List.cons_append]
          refine go_astore_15 e0_362 rfl rfl ?_
          refine go_aload e0_364 rfl rfl ?_
          refine go_aload e0_366 rfl rfl ?_
          refine go_acmp e0_368 rfl rfl (same := false) (by decide) (tg := 379) (by decide) ?_
          show Go C 371 _ _ _ _ _
          refine go_aload e0_371 rfl rfl ?_
          refine go_len e0_373 rfl (n := 4) (by rw [hol]; decide) ?_
          refine go_iload e0_374 rfl ?_
          refine go_iceqY e0_376 (tg := 381) (by decide) rfl ?_
          refine go_aload e0_381 rfl rfl ?_
          refine go_aload e0_383 rfl rfl ?_
          refine go_iload e0_385 rfl ?_
          refine go_iconst e0_387 (x := 0) rfl ?_
          refine go_iconst e0_388 (x := 1) rfl ?_
          refine go_iconst e0_389 (x := 0) rfl ?_
          refine go_static_6 e0_390 (wd 19 rfl) (wd 20 rfl) (wd 21 rfl) (wd 4 rfl) hy_1 pd_7 rfl (c_same1 hw (n := 4) (s1 := 0) (i := 0) (K := 0) rfl rfl (by decide) (by decide) (by decide) (by decide) (by decide) (by decide) (by decide) rfl o0) rfl 0 rfl (by decide) (by decide) (by decide) (by decide) ?_
          rintro _ _ ⟨rfl, rfl⟩
          try simp only [List.replicate_succ, List.replicate_zero, List.set_cons_zero, List.set_cons_succ, List.length_nil, List.length_cons, Nat.zero_add, Nat.reduceAdd, List.nil_append, List.cons_append]
          refine go_ifeqN e0_393 (tg := 460) (by decide) (by decide) ?_
          refine go_aload e0_396 rfl rfl ?_
          refine go_aload e0_398 rfl rfl ?_
          refine go_iload e0_400 rfl ?_
          refine go_iconst e0_402 (x := 0) rfl ?_
          refine go_iconst e0_403 (x := 1) rfl ?_
          refine go_iconst e0_404 (x := 1) rfl ?_
          refine go_static_6 e0_405 (wd 19 rfl) (wd 20 rfl) (wd 21 rfl) (wd 4 rfl) hy_1 pd_7 rfl (c_same1 hw (n := 4) (s1 := 0) (i := 1) (K := 1) rfl rfl (by decide) (by decide) (by decide) (by decide) (by decide) (by decide) (by decide) rfl o1) rfl 0 rfl (by decide) (by decide) (by decide) (by decide) ?_
          rintro _ _ ⟨rfl, rfl⟩
          try simp only [List.replicate_succ, List.replicate_zero, List.set_cons_zero, List.set_cons_succ, List.length_nil, List.length_cons, Nat.zero_add, Nat.reduceAdd, List.nil_append, List.cons_append]
          refine go_ifeqN e0_408 (tg := 460) (by decide) (by decide) ?_
          refine go_aload e0_411 rfl rfl ?_
          refine go_aload e0_413 rfl rfl ?_
          refine go_iload e0_415 rfl ?_
          refine go_iconst e0_417 (x := 0) rfl ?_
          refine go_iconst e0_418 (x := 1) rfl ?_
          refine go_iconst e0_419 (x := 2) rfl ?_
          refine go_static_6 e0_420 (wd 19 rfl) (wd 20 rfl) (wd 21 rfl) (wd 4 rfl) hy_1 pd_7 rfl (c_same1 hw (n := 4) (s1 := 0) (i := 2) (K := 2) rfl rfl (by decide) (by decide) (by decide) (by decide) (by decide) (by decide) (by decide) rfl o2) rfl 0 rfl (by decide) (by decide) (by decide) (by decide) ?_
          rintro _ _ ⟨rfl, rfl⟩
          try simp only [List.replicate_succ, List.replicate_zero, List.set_cons_zero, List.set_cons_succ, List.length_nil, List.length_cons, Nat.zero_add, Nat.reduceAdd, List.nil_append, List.cons_append]
          refine go_ifeqN e0_423 (tg := 460) (by decide) (by decide) ?_
          refine go_aload e0_426 rfl rfl ?_
          refine go_aload e0_428 rfl rfl ?_
          refine go_iload e0_430 rfl ?_
          refine go_iconst e0_432 (x := 0) rfl ?_
          refine go_iconst e0_433 (x := 1) rfl ?_
          refine go_iconst e0_434 (x := 3) rfl ?_
          refine go_static_6 e0_435 (wd 19 rfl) (wd 20 rfl) (wd 21 rfl) (wd 4 rfl) hy_1 pd_7 rfl (c_same1 hw (n := 4) (s1 := 0) (i := 3) (K := 3) rfl rfl (by decide) (by decide) (by decide) (by decide) (by decide) (by decide) (by decide) rfl o3) rfl 0 rfl (by decide) (by decide) (by decide) (by decide) ?_
          rintro _ _ ⟨rfl, rfl⟩
          try simp only [List.replicate_succ, List.replicate_zero, List.set_cons_zero, List.set_cons_succ, List.length_nil, List.length_cons, Nat.zero_add, Nat.reduceAdd, List.nil_append, List.cons_append]
          refine go_ifeqN e0_438 (tg := 460) (by decide) (by decide) ?_
          refine go_aload e0_441 rfl rfl ?_
          refine go_aload e0_443 rfl rfl ?_
          refine go_iload e0_445 rfl ?_
          refine go_iconst e0_447 (x := 0) rfl ?_
          refine go_iconst e0_448 (x := 1) rfl ?_
          refine go_iconst e0_449 (x := 4) rfl ?_
          refine go_static_6 e0_450 (wd 19 rfl) (wd 20 rfl) (wd 21 rfl) (wd 4 rfl) hy_1 pd_7 rfl (c_same0 hw (n := 4) (i := 4) (by decide) (by decide) (by decide)) rfl 0 rfl (by decide) (by decide) (by decide) (by decide) ?_
          rintro _ _ ⟨rfl, rfl⟩
          try simp only [List.replicate_succ, List.replicate_zero, List.set_cons_zero, List.set_cons_succ, List.length_nil, List.length_cons, Nat.zero_add, Nat.reduceAdd, List.nil_append, List.cons_append]
          refine go_ifeqN e0_453 (tg := 460) (by decide) (by decide) ?_
          refine go_iconst e0_456 (x := 1) rfl ?_
          refine go_goto e0_457 (tg := 461) (by decide) ?_
          refine go_istore_16 e0_461 rfl ?_
          refine go_aload e0_463 rfl rfl ?_
          refine go_aload e0_465 rfl rfl ?_
          refine go_iload e0_467 rfl ?_
          refine go_iload e0_469 rfl ?_
          refine go_iload e0_471 rfl ?_
          refine go_iconst e0_473 (x := 0) rfl ?_
          refine go_static_6 e0_474 (wd 19 rfl) (wd 20 rfl) (wd 21 rfl) (wd 4 rfl) hy_1 pd_7 rfl (c_same1 hw (n := 4) (s1 := 2) (i := 0) (K := 2) rfl rfl (by decide) (by decide) (by decide) (by decide) (by decide) (by decide) (by decide) rfl rfl) rfl 0 rfl (by decide) (by decide) (by decide) (by decide) ?_
          rintro _ _ ⟨rfl, rfl⟩
          try simp only [List.replicate_succ, List.replicate_zero, List.set_cons_zero, List.set_cons_succ, List.length_nil, List.length_cons, Nat.zero_add, Nat.reduceAdd, List.nil_append, List.cons_append]
          refine go_ifeqN e0_477 (tg := 552) (by decide) (by decide) ?_
          refine go_aload e0_480 rfl rfl ?_
          refine go_aload e0_482 rfl rfl ?_
          refine go_iload e0_484 rfl ?_
          refine go_iload e0_486 rfl ?_
          refine go_iload e0_488 rfl ?_
          refine go_iconst e0_490 (x := 1) rfl ?_
          refine go_static_6 e0_491 (wd 19 rfl) (wd 20 rfl) (wd 21 rfl) (wd 4 rfl) hy_1 pd_7 rfl (c_same1 hw (n := 4) (s1 := 2) (i := 1) (K := 3) rfl rfl (by decide) (by decide) (by decide) (by decide) (by decide) (by decide) (by decide) rfl rfl) rfl 0 rfl (by decide) (by decide) (by decide) (by decide) ?_
          rintro _ _ ⟨rfl, rfl⟩
          try simp only [List.replicate_succ, List.replicate_zero, List.set_cons_zero, List.set_cons_succ, List.length_nil, List.length_cons, Nat.zero_add, Nat.reduceAdd, List.nil_append, List.cons_append]
          refine go_ifeqN e0_494 (tg := 552) (by decide) (by decide) ?_
          refine go_aload e0_497 rfl rfl ?_
          refine go_aload e0_499 rfl rfl ?_
          refine go_iload e0_501 rfl ?_
          refine go_iload e0_503 rfl ?_
          refine go_iload e0_505 rfl ?_
          refine go_iconst e0_507 (x := 2) rfl ?_
          refine go_static_6 e0_508 (wd 19 rfl) (wd 20 rfl) (wd 21 rfl) (wd 4 rfl) hy_1 pd_7 rfl (c_same1 hw (n := 4) (s1 := 2) (i := 2) (K := 0) rfl rfl (by decide) (by decide) (by decide) (by decide) (by decide) (by decide) (by decide) rfl rfl) rfl 0 rfl (by decide) (by decide) (by decide) (by decide) ?_
          rintro _ _ ⟨rfl, rfl⟩
          try simp only [List.replicate_succ, List.replicate_zero, List.set_cons_zero, List.set_cons_succ, List.length_nil, List.length_cons, Nat.zero_add, Nat.reduceAdd, List.nil_append, List.cons_append]
          refine go_ifeqN e0_511 (tg := 552) (by decide) (by decide) ?_
          refine go_aload e0_514 rfl rfl ?_
          refine go_aload e0_516 rfl rfl ?_
          refine go_iload e0_518 rfl ?_
          refine go_iload e0_520 rfl ?_
          refine go_iload e0_522 rfl ?_
          refine go_iconst e0_524 (x := 3) rfl ?_
          refine go_static_6 e0_525 (wd 19 rfl) (wd 20 rfl) (wd 21 rfl) (wd 4 rfl) hy_1 pd_7 rfl (c_same1 hw (n := 4) (s1 := 2) (i := 3) (K := 1) rfl rfl (by decide) (by decide) (by decide) (by decide) (by decide) (by decide) (by decide) rfl rfl) rfl 0 rfl (by decide) (by decide) (by decide) (by decide) ?_
          rintro _ _ ⟨rfl, rfl⟩
          try simp only [List.replicate_succ, List.replicate_zero, List.set_cons_zero, List.set_cons_succ, List.length_nil, List.length_cons, Nat.zero_add, Nat.reduceAdd, List.nil_append, List.cons_append]
          refine go_ifeqN e0_528 (tg := 552) (by decide) (by decide) ?_
          refine go_aload e0_531 rfl rfl ?_
          refine go_aload e0_533 rfl rfl ?_
          refine go_iload e0_535 rfl ?_
          refine go_iload e0_537 rfl ?_
          refine go_iload e0_539 rfl ?_
          refine go_iconst e0_541 (x := 4) rfl ?_
          refine go_static_6 e0_542 (wd 19 rfl) (wd 20 rfl) (wd 21 rfl) (wd 4 rfl) hy_1 pd_7 rfl (c_same0 hw (n := 4) (i := 4) (by decide) (by decide) (by decide)) rfl 0 rfl (by decide) (by decide) (by decide) (by decide) ?_
          rintro _ _ ⟨rfl, rfl⟩
          try simp only [List.replicate_succ, List.replicate_zero, List.set_cons_zero, List.set_cons_succ, List.length_nil, List.length_cons, Nat.zero_add, Nat.reduceAdd, List.nil_append, List.cons_append]
          refine go_ifeqN e0_545 (tg := 552) (by decide) (by decide) ?_
          refine go_iconst e0_548 (x := 1) rfl ?_
          refine go_goto e0_549 (tg := 553) (by decide) ?_
          refine go_istore_17 e0_553 rfl ?_
          refine go_iload e0_555 rfl ?_
          refine go_ifeqN e0_557 (tg := 569) (by decide) (by decide) ?_
          refine go_iload e0_560 rfl ?_
          refine go_ifeqN e0_562 (tg := 569) (by decide) (by decide) ?_
          refine go_iconst e0_565 (x := 1) rfl ?_
          refine go_goto e0_566 (tg := 570) (by decide) ?_
          refine go_zreturn e0_570 rfl (by decide) (by decide) (by decide) ?_
          exact rfl
      · refine go_iloadN e0_268 rfl ?_
        refine go_iconst e0_269 (x := 1) rfl ?_
        refine go_iand e0_270 ?_
        refine go_ifeq e0_271 (tg := 278) (by decide) ?_ ?_
        · intro c271
          refine go_iconst e0_278 (x := 0) rfl ?_
          refine go_istore_13 e0_279 rfl ?_
          refine go_iload e0_281 rfl ?_
          refine go_newarray e0_283 (wd 1 rfl) (k := 4) rfl (vs := [.int 0, .int 0, .int 0, .int 0]) rfl (cap := 4) (by decide) (by decide) (by decide) (by decide) ?_
          simp only [List.replicate_succ, List.replicate_zero, List.set_cons_zero, List.set_cons_succ, List.length_nil, List.length_cons, Nat.zero_add, Nat.reduceAdd, List.nil_append, List.cons_append]
          refine go_astore_14 e0_285 rfl rfl ?_
          refine go_aload e0_287 rfl rfl ?_
          refine go_aload e0_289 rfl rfl ?_
          refine go_iload e0_291 rfl ?_
          refine go_iload e0_293 rfl ?_
          refine go_iload e0_295 rfl ?_
          refine go_iconst e0_297 (x := 0) rfl ?_
          refine go_staticV_6 e0_298 (wd 9 rfl) (wd 10 rfl) (wd 11 rfl) (wd 4 rfl) hy_1 pd_4 rfl (c_place1 hw (n := 4) (s1 := 3) (i := 0) (K := 3) rfl rfl (by decide) (by decide) (by decide) (by decide) (by decide) (by decide) (by decide) rfl (Nat.le_of_ble_eq_true rfl)) rfl 0 rfl (by decide) (by decide) (by decide) (by decide) ?_
          rintro _ rfl
          try simp only [List.replicate_succ, List.replicate_zero, List.set_cons_zero, List.set_cons_succ, List.length_nil, List.length_cons, Nat.zero_add, Nat.reduceAdd, List.nil_append, List.cons_append]
          refine go_aload e0_301 rfl rfl ?_
          refine go_aload e0_303 rfl rfl ?_
          refine go_iload e0_305 rfl ?_
          refine go_iload e0_307 rfl ?_
          refine go_iload e0_309 rfl ?_
          refine go_iconst e0_311 (x := 1) rfl ?_
          refine go_staticV_6 e0_312 (wd 9 rfl) (wd 10 rfl) (wd 11 rfl) (wd 4 rfl) hy_1 pd_4 rfl (c_place1 hw (n := 4) (s1 := 3) (i := 1) (K := 2) rfl rfl (by decide) (by decide) (by decide) (by decide) (by decide) (by decide) (by decide) rfl (Nat.le_of_ble_eq_true rfl)) rfl 0 rfl (by decide) (by decide) (by decide) (by decide) ?_
          rintro _ rfl
          try simp only [List.replicate_succ, List.replicate_zero, List.set_cons_zero, List.set_cons_succ, List.length_nil, List.length_cons, Nat.zero_add, Nat.reduceAdd, List.nil_append, List.cons_append]
          refine go_aload e0_315 rfl rfl ?_
          refine go_aload e0_317 rfl rfl ?_
          refine go_iload e0_319 rfl ?_
          refine go_iload e0_321 rfl ?_
          refine go_iload e0_323 rfl ?_
          refine go_iconst e0_325 (x := 2) rfl ?_
          refine go_staticV_6 e0_326 (wd 9 rfl) (wd 10 rfl) (wd 11 rfl) (wd 4 rfl) hy_1 pd_4 rfl (c_place1 hw (n := 4) (s1 := 3) (i := 2) (K := 1) rfl rfl (by decide) (by decide) (by decide) (by decide) (by decide) (by decide) (by decide) rfl (Nat.le_of_ble_eq_true rfl)) rfl 0 rfl (by decide) (by decide) (by decide) (by decide) ?_
          rintro _ rfl
          try simp only [List.replicate_succ, List.replicate_zero, List.set_cons_zero, List.set_cons_succ, List.length_nil, List.length_cons, Nat.zero_add, Nat.reduceAdd, List.nil_append, List.cons_append]
          refine go_aload e0_329 rfl rfl ?_
          refine go_aload e0_331 rfl rfl ?_
          refine go_iload e0_333 rfl ?_
          refine go_iload e0_335 rfl ?_
          refine go_iload e0_337 rfl ?_
          refine go_iconst e0_339 (x := 3) rfl ?_
          refine go_staticV_6 e0_340 (wd 9 rfl) (wd 10 rfl) (wd 11 rfl) (wd 4 rfl) hy_1 pd_4 rfl (c_place1 hw (n := 4) (s1 := 3) (i := 3) (K := 0) rfl rfl (by decide) (by decide) (by decide) (by decide) (by decide) (by decide) (by decide) rfl (Nat.le_of_ble_eq_true rfl)) rfl 0 rfl (by decide) (by decide) (by decide) (by decide) ?_
          rintro _ rfl
          try simp only [List.replicate_succ, List.replicate_zero, List.set_cons_zero, List.set_cons_succ, List.length_nil, List.length_cons, Nat.zero_add, Nat.reduceAdd, List.nil_append, List.cons_append]
          refine go_aload e0_343 rfl rfl ?_
          refine go_aload e0_345 rfl rfl ?_
          refine go_iload e0_347 rfl ?_
          refine go_iload e0_349 rfl ?_
          refine go_iload e0_351 rfl ?_
          refine go_iconst e0_353 (x := 4) rfl ?_
          refine go_staticV_6 e0_354 (wd 9 rfl) (wd 10 rfl) (wd 11 rfl) (wd 4 rfl) hy_1 pd_4 rfl (c_place0 hw (n := 4) (i := 4) (by decide) (by decide) (by decide)) rfl 0 rfl (by decide) (by decide) (by decide) (by decide) ?_
          rintro _ rfl
          try simp only [List.replicate_succ, List.replicate_zero, List.set_cons_zero, List.set_cons_succ, List.length_nil, List.length_cons, Nat.zero_add, Nat.reduceAdd, List.nil_append, List.cons_append]
          refine go_aload e0_357 rfl rfl ?_
          refine go_static_1 e0_359 (wd 15 rfl) (wd 16 rfl) (wd 18 rfl) (wd 17 rfl) hy_5 pd_6 rfl (c_norm hw (n := 4) (st := 3) (nn := 4) (va := w3) (vb := w1) rfl rfl (by decide) (by decide) (by intro v hv; simp only [List.mem_cons, List.not_mem_nil, or_false] at hv; rcases hv with rfl | rfl | rfl | rfl <;> exact ⟨_, rfl⟩) (by decide) rfl (fun j hj => by
              have hj2 : j = 0 ∨ j = 1 ∨ j = 2 := by omega
              rcases hj2 with rfl | rfl | rfl
              · exact ⟨_, rfl, n3⟩
              · exact ⟨_, rfl, n2⟩
              · exact ⟨_, rfl, n1⟩) rfl rfl) rfl 0 rfl (by decide) (by decide) (by decide) (by decide) ?_
          rintro _ _ ⟨rfl, out, rfl, hol, hout⟩
          rw [if_neg (by omega)] at hout
          have o0 : out[0]? = some (.int 0) := hout 0 (by decide)
          have o1 : out[1]? = some (.int w1) := hout 1 (by decide)
          have o2 : out[2]? = some (.int w2) := hout 2 (by decide)
          have o3 : out[3]? = some (.int w3) := hout 3 (by decide)
          try simp only [List.replicate_succ, List.replicate_zero, List.set_cons_zero, List.set_cons_succ, List.length_nil, List.length_cons, Nat.zero_add, Nat.reduceAdd, List.nil_append, List.cons_append]
          refine go_astore_15 e0_362 rfl rfl ?_
          refine go_aload e0_364 rfl rfl ?_
          refine go_aload e0_366 rfl rfl ?_
          refine go_acmp e0_368 rfl rfl (same := false) (by decide) (tg := 379) (by decide) ?_
          show Go C 371 _ _ _ _ _
          refine go_aload e0_371 rfl rfl ?_
          refine go_len e0_373 rfl (n := 4) (by rw [hol]; decide) ?_
          refine go_iload e0_374 rfl ?_
          refine go_iceqY e0_376 (tg := 381) (by decide) rfl ?_
          refine go_aload e0_381 rfl rfl ?_
          refine go_aload e0_383 rfl rfl ?_
          refine go_iload e0_385 rfl ?_
          refine go_iconst e0_387 (x := 0) rfl ?_
          refine go_iconst e0_388 (x := 1) rfl ?_
          refine go_iconst e0_389 (x := 0) rfl ?_
          refine go_static_6 e0_390 (wd 19 rfl) (wd 20 rfl) (wd 21 rfl) (wd 4 rfl) hy_1 pd_7 rfl (c_same1 hw (n := 4) (s1 := 0) (i := 0) (K := 0) rfl rfl (by decide) (by decide) (by decide) (by decide) (by decide) (by decide) (by decide) rfl o0) rfl 0 rfl (by decide) (by decide) (by decide) (by decide) ?_
          rintro _ _ ⟨rfl, rfl⟩
          try simp only [List.replicate_succ, List.replicate_zero, List.set_cons_zero, List.set_cons_succ, List.length_nil, List.length_cons, Nat.zero_add, Nat.reduceAdd, List.nil_append, List.cons_append]
          refine go_ifeqN e0_393 (tg := 460) (by decide) (by decide) ?_
          refine go_aload e0_396 rfl rfl ?_
          refine go_aload e0_398 rfl rfl ?_
          refine go_iload e0_400 rfl ?_
          refine go_iconst e0_402 (x := 0) rfl ?_
          refine go_iconst e0_403 (x := 1) rfl ?_
          refine go_iconst e0_404 (x := 1) rfl ?_
          refine go_static_6 e0_405 (wd 19 rfl) (wd 20 rfl) (wd 21 rfl) (wd 4 rfl) hy_1 pd_7 rfl (c_same1 hw (n := 4) (s1 := 0) (i := 1) (K := 1) rfl rfl (by decide) (by decide) (by decide) (by decide) (by decide) (by decide) (by decide) rfl o1) rfl 0 rfl (by decide) (by decide) (by decide) (by decide) ?_
          rintro _ _ ⟨rfl, rfl⟩
          try simp only [List.replicate_succ, List.replicate_zero, List.set_cons_zero, List.set_cons_succ, List.length_nil, List.length_cons, Nat.zero_add, Nat.reduceAdd, List.nil_append, List.cons_append]
          refine go_ifeqN e0_408 (tg := 460) (by decide) (by decide) ?_
          refine go_aload e0_411 rfl rfl ?_
          refine go_aload e0_413 rfl rfl ?_
          refine go_iload e0_415 rfl ?_
          refine go_iconst e0_417 (x := 0) rfl ?_
          refine go_iconst e0_418 (x := 1) rfl ?_
          refine go_iconst e0_419 (x := 2) rfl ?_
          refine go_static_6 e0_420 (wd 19 rfl) (wd 20 rfl) (wd 21 rfl) (wd 4 rfl) hy_1 pd_7 rfl (c_same1 hw (n := 4) (s1 := 0) (i := 2) (K := 2) rfl rfl (by decide) (by decide) (by decide) (by decide) (by decide) (by decide) (by decide) rfl o2) rfl 0 rfl (by decide) (by decide) (by decide) (by decide) ?_
          rintro _ _ ⟨rfl, rfl⟩
          try simp only [List.replicate_succ, List.replicate_zero, List.set_cons_zero, List.set_cons_succ, List.length_nil, List.length_cons, Nat.zero_add, Nat.reduceAdd, List.nil_append, List.cons_append]
          refine go_ifeqN e0_423 (tg := 460) (by decide) (by decide) ?_
          refine go_aload e0_426 rfl rfl ?_
          refine go_aload e0_428 rfl rfl ?_
          refine go_iload e0_430 rfl ?_
          refine go_iconst e0_432 (x := 0) rfl ?_
          refine go_iconst e0_433 (x := 1) rfl ?_
          refine go_iconst e0_434 (x := 3) rfl ?_
          refine go_static_6 e0_435 (wd 19 rfl) (wd 20 rfl) (wd 21 rfl) (wd 4 rfl) hy_1 pd_7 rfl (c_same1 hw (n := 4) (s1 := 0) (i := 3) (K := 3) rfl rfl (by decide) (by decide) (by decide) (by decide) (by decide) (by decide) (by decide) rfl o3) rfl 0 rfl (by decide) (by decide) (by decide) (by decide) ?_
          rintro _ _ ⟨rfl, rfl⟩
          try simp only [List.replicate_succ, List.replicate_zero, List.set_cons_zero, List.set_cons_succ, List.length_nil, List.length_cons, Nat.zero_add, Nat.reduceAdd, List.nil_append, List.cons_append]
          refine go_ifeqN e0_438 (tg := 460) (by decide) (by decide) ?_
          refine go_aload e0_441 rfl rfl ?_
          refine go_aload e0_443 rfl rfl ?_
          refine go_iload e0_445 rfl ?_
          refine go_iconst e0_447 (x := 0) rfl ?_
          refine go_iconst e0_448 (x := 1) rfl ?_
          refine go_iconst e0_449 (x := 4) rfl ?_
          refine go_static_6 e0_450 (wd 19 rfl) (wd 20 rfl) (wd 21 rfl) (wd 4 rfl) hy_1 pd_7 rfl (c_same0 hw (n := 4) (i := 4) (by decide) (by decide) (by decide)) rfl 0 rfl (by decide) (by decide) (by decide) (by decide) ?_
          rintro _ _ ⟨rfl, rfl⟩
          try simp only [List.replicate_succ, List.replicate_zero, List.set_cons_zero, List.set_cons_succ, List.length_nil, List.length_cons, Nat.zero_add, Nat.reduceAdd, List.nil_append, List.cons_append]
          refine go_ifeqN e0_453 (tg := 460) (by decide) (by decide) ?_
          refine go_iconst e0_456 (x := 1) rfl ?_
          refine go_goto e0_457 (tg := 461) (by decide) ?_
          refine go_istore_16 e0_461 rfl ?_
          refine go_aload e0_463 rfl rfl ?_
          refine go_aload e0_465 rfl rfl ?_
          refine go_iload e0_467 rfl ?_
          refine go_iload e0_469 rfl ?_
          refine go_iload e0_471 rfl ?_
          refine go_iconst e0_473 (x := 0) rfl ?_
          refine go_static_6 e0_474 (wd 19 rfl) (wd 20 rfl) (wd 21 rfl) (wd 4 rfl) hy_1 pd_7 rfl (c_same1 hw (n := 4) (s1 := 3) (i := 0) (K := 3) rfl rfl (by decide) (by decide) (by decide) (by decide) (by decide) (by decide) (by decide) rfl rfl) rfl 0 rfl (by decide) (by decide) (by decide) (by decide) ?_
          rintro _ _ ⟨rfl, rfl⟩
          try simp only [List.replicate_succ, List.replicate_zero, List.set_cons_zero, List.set_cons_succ, List.length_nil, List.length_cons, Nat.zero_add, Nat.reduceAdd, List.nil_append, List.cons_append]
          refine go_ifeqN e0_477 (tg := 552) (by decide) (by decide) ?_
          refine go_aload e0_480 rfl rfl ?_
          refine go_aload e0_482 rfl rfl ?_
          refine go_iload e0_484 rfl ?_
          refine go_iload e0_486 rfl ?_
          refine go_iload e0_488 rfl ?_
          refine go_iconst e0_490 (x := 1) rfl ?_
          refine go_static_6 e0_491 (wd 19 rfl) (wd 20 rfl) (wd 21 rfl) (wd 4 rfl) hy_1 pd_7 rfl (c_same1 hw (n := 4) (s1 := 3) (i := 1) (K := 2) rfl rfl (by decide) (by decide) (by decide) (by decide) (by decide) (by decide) (by decide) rfl rfl) rfl 0 rfl (by decide) (by decide) (by decide) (by decide) ?_
          rintro _ _ ⟨rfl, rfl⟩
          try simp only [List.replicate_succ, List.replicate_zero, List.set_cons_zero, List.set_cons_succ, List.length_nil, List.length_cons, Nat.zero_add, Nat.reduceAdd, List.nil_append, List.cons_append]
          refine go_ifeqN e0_494 (tg := 552) (by decide) (by decide) ?_
          refine go_aload e0_497 rfl rfl ?_
          refine go_aload e0_499 rfl rfl ?_
          refine go_iload e0_501 rfl ?_
          refine go_iload e0_503 rfl ?_
          refine go_iload e0_505 rfl ?_
          refine go_iconst e0_507 (x := 2) rfl ?_
          refine go_static_6 e0_508 (wd 19 rfl) (wd 20 rfl) (wd 21 rfl) (wd 4 rfl) hy_1 pd_7 rfl (c_same1 hw (n := 4) (s1 := 3) (i := 2) (K := 1) rfl rfl (by decide) (by decide) (by decide) (by decide) (by decide) (by decide) (by decide) rfl rfl) rfl 0 rfl (by decide) (by decide) (by decide) (by decide) ?_
          rintro _ _ ⟨rfl, rfl⟩
          try simp only [List.replicate_succ, List.replicate_zero, List.set_cons_zero, List.set_cons_succ, List.length_nil, List.length_cons, Nat.zero_add, Nat.reduceAdd, List.nil_append, List.cons_append]
          refine go_ifeqN e0_511 (tg := 552) (by decide) (by decide) ?_
          refine go_aload e0_514 rfl rfl ?_
          refine go_aload e0_516 rfl rfl ?_
          refine go_iload e0_518 rfl ?_
          refine go_iload e0_520 rfl ?_
          refine go_iload e0_522 rfl ?_
          refine go_iconst e0_524 (x := 3) rfl ?_
          refine go_static_6 e0_525 (wd 19 rfl) (wd 20 rfl) (wd 21 rfl) (wd 4 rfl) hy_1 pd_7 rfl (c_same1 hw (n := 4) (s1 := 3) (i := 3) (K := 0) rfl rfl (by decide) (by decide) (by decide) (by decide) (by decide) (by decide) (by decide) rfl rfl) rfl 0 rfl (by decide) (by decide) (by decide) (by decide) ?_
          rintro _ _ ⟨rfl, rfl⟩
          try simp only [List.replicate_succ, List.replicate_zero, List.set_cons_zero, List.set_cons_succ, List.length_nil, List.length_cons, Nat.zero_add, Nat.reduceAdd, List.nil_append, List.cons_append]
          refine go_ifeqN e0_528 (tg := 552) (by decide) (by decide) ?_
          refine go_aload e0_531 rfl rfl ?_
          refine go_aload e0_533 rfl rfl ?_
          refine go_iload e0_535 rfl ?_
          refine go_iload e0_537 rfl ?_
          refine go_iload e0_539 rfl ?_
          refine go_iconst e0_541 (x := 4) rfl ?_
          refine go_static_6 e0_542 (wd 19 rfl) (wd 20 rfl) (wd 21 rfl) (wd 4 rfl) hy_1 pd_7 rfl (c_same0 hw (n := 4) (i := 4) (by decide) (by decide) (by decide)) rfl 0 rfl (by decide) (by decide) (by decide) (by decide) ?_
          rintro _ _ ⟨rfl, rfl⟩
          try simp only [List.replicate_succ, List.replicate_zero, List.set_cons_zero, List.set_cons_succ, List.length_nil, List.length_cons, Nat.zero_add, Nat.reduceAdd, List.nil_append, List.cons_append]
          refine go_ifeqN e0_545 (tg := 552) (by decide) (by decide) ?_
          refine go_iconst e0_548 (x := 1) rfl ?_
          refine go_goto e0_549 (tg := 553) (by decide) ?_
          refine go_istore_17 e0_553 rfl ?_
          refine go_iload e0_555 rfl ?_
          refine go_ifeqN e0_557 (tg := 569) (by decide) (by decide) ?_
          refine go_iload e0_560 rfl ?_
          refine go_ifeqN e0_562 (tg := 569) (by decide) (by decide) ?_
          refine go_iconst e0_565 (x := 1) rfl ?_
          refine go_goto e0_566 (tg := 570) (by decide) ?_
          refine go_zreturn e0_570 rfl (by decide) (by decide) (by decide) ?_
          exact rfl
        · intro c271
          refine go_iconst e0_274 (x := 1) rfl ?_
          refine go_goto e0_275 (tg := 279) (by decide) ?_
          refine go_istore_13 e0_279 rfl ?_
          refine go_iload e0_281 rfl ?_
          refine go_newarray e0_283 (wd 1 rfl) (k := 4) rfl (vs := [.int 0, .int 0, .int 0, .int 0]) rfl (cap := 4) (by decide) (by decide) (by decide) (by decide) ?_
          simp only [List.replicate_succ, List.replicate_zero, List.set_cons_zero, List.set_cons_succ, List.length_nil, List.length_cons, Nat.zero_add, Nat.reduceAdd, List.nil_append, List.cons_append]
          refine go_astore_14 e0_285 rfl rfl ?_
          refine go_aload e0_287 rfl rfl ?_
          refine go_aload e0_289 rfl rfl ?_
          refine go_iload e0_291 rfl ?_
          refine go_iload e0_293 rfl ?_
          refine go_iload e0_295 rfl ?_
          refine go_iconst e0_297 (x := 0) rfl ?_
          refine go_staticV_6 e0_298 (wd 9 rfl) (wd 10 rfl) (wd 11 rfl) (wd 4 rfl) hy_1 pd_4 rfl (c_place1 hw (n := 4) (s1 := 3) (i := 0) (K := 3) rfl rfl (by decide) (by decide) (by decide) (by decide) (by decide) (by decide) (by decide) rfl (Nat.le_of_ble_eq_true rfl)) rfl 0 rfl (by decide) (by decide) (by decide) (by decide) ?_
          rintro _ rfl
          try simp only [List.replicate_succ, List.replicate_zero, List.set_cons_zero, List.set_cons_succ, List.length_nil, List.length_cons, Nat.zero_add, Nat.reduceAdd, List.nil_append, List.cons_append]
          refine go_aload e0_301 rfl rfl ?_
          refine go_aload e0_303 rfl rfl ?_
          refine go_iload e0_305 rfl ?_
          refine go_iload e0_307 rfl ?_
          refine go_iload e0_309 rfl ?_
          refine go_iconst e0_311 (x := 1) rfl ?_
          refine go_staticV_6 e0_312 (wd 9 rfl) (wd 10 rfl) (wd 11 rfl) (wd 4 rfl) hy_1 pd_4 rfl (c_place1 hw (n := 4) (s1 := 3) (i := 1) (K := 0) rfl rfl (by decide) (by decide) (by decide) (by decide) (by decide) (by decide) (by decide) rfl (Nat.le_of_ble_eq_true rfl)) rfl 0 rfl (by decide) (by decide) (by decide) (by decide) ?_
          rintro _ rfl
          try simp only [List.replicate_succ, List.replicate_zero, List.set_cons_zero, List.set_cons_succ, List.length_nil, List.length_cons, Nat.zero_add, Nat.reduceAdd, List.nil_append, List.cons_append]
          refine go_aload e0_315 rfl rfl ?_
          refine go_aload e0_317 rfl rfl ?_
          refine go_iload e0_319 rfl ?_
          refine go_iload e0_321 rfl ?_
          refine go_iload e0_323 rfl ?_
          refine go_iconst e0_325 (x := 2) rfl ?_
          refine go_staticV_6 e0_326 (wd 9 rfl) (wd 10 rfl) (wd 11 rfl) (wd 4 rfl) hy_1 pd_4 rfl (c_place1 hw (n := 4) (s1 := 3) (i := 2) (K := 1) rfl rfl (by decide) (by decide) (by decide) (by decide) (by decide) (by decide) (by decide) rfl (Nat.le_of_ble_eq_true rfl)) rfl 0 rfl (by decide) (by decide) (by decide) (by decide) ?_
          rintro _ rfl
          try simp only [List.replicate_succ, List.replicate_zero, List.set_cons_zero, List.set_cons_succ, List.length_nil, List.length_cons, Nat.zero_add, Nat.reduceAdd, List.nil_append, List.cons_append]
          refine go_aload e0_329 rfl rfl ?_
          refine go_aload e0_331 rfl rfl ?_
          refine go_iload e0_333 rfl ?_
          refine go_iload e0_335 rfl ?_
          refine go_iload e0_337 rfl ?_
          refine go_iconst e0_339 (x := 3) rfl ?_
          refine go_staticV_6 e0_340 (wd 9 rfl) (wd 10 rfl) (wd 11 rfl) (wd 4 rfl) hy_1 pd_4 rfl (c_place1 hw (n := 4) (s1 := 3) (i := 3) (K := 2) rfl rfl (by decide) (by decide) (by decide) (by decide) (by decide) (by decide) (by decide) rfl (Nat.le_of_ble_eq_true rfl)) rfl 0 rfl (by decide) (by decide) (by decide) (by decide) ?_
          rintro _ rfl
          try simp only [List.replicate_succ, List.replicate_zero, List.set_cons_zero, List.set_cons_succ, List.length_nil, List.length_cons, Nat.zero_add, Nat.reduceAdd, List.nil_append, List.cons_append]
          refine go_aload e0_343 rfl rfl ?_
          refine go_aload e0_345 rfl rfl ?_
          refine go_iload e0_347 rfl ?_
          refine go_iload e0_349 rfl ?_
          refine go_iload e0_351 rfl ?_
          refine go_iconst e0_353 (x := 4) rfl ?_
          refine go_staticV_6 e0_354 (wd 9 rfl) (wd 10 rfl) (wd 11 rfl) (wd 4 rfl) hy_1 pd_4 rfl (c_place0 hw (n := 4) (i := 4) (by decide) (by decide) (by decide)) rfl 0 rfl (by decide) (by decide) (by decide) (by decide) ?_
          rintro _ rfl
          try simp only [List.replicate_succ, List.replicate_zero, List.set_cons_zero, List.set_cons_succ, List.length_nil, List.length_cons, Nat.zero_add, Nat.reduceAdd, List.nil_append, List.cons_append]
          refine go_aload e0_357 rfl rfl ?_
          refine go_static_1 e0_359 (wd 15 rfl) (wd 16 rfl) (wd 18 rfl) (wd 17 rfl) hy_5 pd_6 rfl (c_norm hw (n := 4) (st := 3) (nn := 4) (va := w1) (vb := w3) rfl rfl (by decide) (by decide) (by intro v hv; simp only [List.mem_cons, List.not_mem_nil, or_false] at hv; rcases hv with rfl | rfl | rfl | rfl <;> exact ⟨_, rfl⟩) (by decide) rfl (fun j hj => by
              have hj2 : j = 0 ∨ j = 1 ∨ j = 2 := by omega
              rcases hj2 with rfl | rfl | rfl
              · exact ⟨_, rfl, n1⟩
              · exact ⟨_, rfl, n2⟩
              · exact ⟨_, rfl, n3⟩) rfl rfl) rfl 0 rfl (by decide) (by decide) (by decide) (by decide) ?_
          rintro _ _ ⟨rfl, out, rfl, hol, hout⟩
          rw [if_pos (by omega)] at hout
          have o0 : out[0]? = some (.int 0) := hout 0 (by decide)
          have o1 : out[1]? = some (.int w1) := hout 1 (by decide)
          have o2 : out[2]? = some (.int w2) := hout 2 (by decide)
          have o3 : out[3]? = some (.int w3) := hout 3 (by decide)
          try simp only [List.replicate_succ, List.replicate_zero, List.set_cons_zero, List.set_cons_succ, List.length_nil, List.length_cons, Nat.zero_add, Nat.reduceAdd, List.nil_append, List.cons_append]
          refine go_astore_15 e0_362 rfl rfl ?_
          refine go_aload e0_364 rfl rfl ?_
          refine go_aload e0_366 rfl rfl ?_
          refine go_acmp e0_368 rfl rfl (same := false) (by decide) (tg := 379) (by decide) ?_
          show Go C 371 _ _ _ _ _
          refine go_aload e0_371 rfl rfl ?_
          refine go_len e0_373 rfl (n := 4) (by rw [hol]; decide) ?_
          refine go_iload e0_374 rfl ?_
          refine go_iceqY e0_376 (tg := 381) (by decide) rfl ?_
          refine go_aload e0_381 rfl rfl ?_
          refine go_aload e0_383 rfl rfl ?_
          refine go_iload e0_385 rfl ?_
          refine go_iconst e0_387 (x := 0) rfl ?_
          refine go_iconst e0_388 (x := 1) rfl ?_
          refine go_iconst e0_389 (x := 0) rfl ?_
          refine go_static_6 e0_390 (wd 19 rfl) (wd 20 rfl) (wd 21 rfl) (wd 4 rfl) hy_1 pd_7 rfl (c_same1 hw (n := 4) (s1 := 0) (i := 0) (K := 0) rfl rfl (by decide) (by decide) (by decide) (by decide) (by decide) (by decide) (by decide) rfl o0) rfl 0 rfl (by decide) (by decide) (by decide) (by decide) ?_
          rintro _ _ ⟨rfl, rfl⟩
          try simp only [List.replicate_succ, List.replicate_zero, List.set_cons_zero, List.set_cons_succ, List.length_nil, List.length_cons, Nat.zero_add, Nat.reduceAdd, List.nil_append, List.cons_append]
          refine go_ifeqN e0_393 (tg := 460) (by decide) (by decide) ?_
          refine go_aload e0_396 rfl rfl ?_
          refine go_aload e0_398 rfl rfl ?_
          refine go_iload e0_400 rfl ?_
          refine go_iconst e0_402 (x := 0) rfl ?_
          refine go_iconst e0_403 (x := 1) rfl ?_
          refine go_iconst e0_404 (x := 1) rfl ?_
          refine go_static_6 e0_405 (wd 19 rfl) (wd 20 rfl) (wd 21 rfl) (wd 4 rfl) hy_1 pd_7 rfl (c_same1 hw (n := 4) (s1 := 0) (i := 1) (K := 1) rfl rfl (by decide) (by decide) (by decide) (by decide) (by decide) (by decide) (by decide) rfl o1) rfl 0 rfl (by decide) (by decide) (by decide) (by decide) ?_
          rintro _ _ ⟨rfl, rfl⟩
          try simp only [List.replicate_succ, List.replicate_zero, List.set_cons_zero, List.set_cons_succ, List.length_nil, List.length_cons, Nat.zero_add, Nat.reduceAdd, List.nil_append, List.cons_append]
          refine go_ifeqN e0_408 (tg := 460) (by decide) (by decide) ?_
          refine go_aload e0_411 rfl rfl ?_
          refine go_aload e0_413 rfl rfl ?_
          refine go_iload e0_415 rfl ?_
          refine go_iconst e0_417 (x := 0) rfl ?_
          refine go_iconst e0_418 (x := 1) rfl ?_
          refine go_iconst e0_419 (x := 2) rfl ?_
          refine go_static_6 e0_420 (wd 19 rfl) (wd 20 rfl) (wd 21 rfl) (wd 4 rfl) hy_1 pd_7 rfl (c_same1 hw (n := 4) (s1 := 0) (i := 2) (K := 2) rfl rfl (by decide) (by decide) (by decide) (by decide) (by decide) (by decide) (by decide) rfl o2) rfl 0 rfl (by decide) (by decide) (by decide) (by decide) ?_
          rintro _ _ ⟨rfl, rfl⟩
          try simp only [List.replicate_succ, List.replicate_zero, List.set_cons_zero, List.set_cons_succ, List.length_nil, List.length_cons, Nat.zero_add, Nat.reduceAdd, List.nil_append, List.cons_append]
          refine go_ifeqN e0_423 (tg := 460) (by decide) (by decide) ?_
          refine go_aload e0_426 rfl rfl ?_
          refine go_aload e0_428 rfl rfl ?_
          refine go_iload e0_430 rfl ?_
          refine go_iconst e0_432 (x := 0) rfl ?_
          refine go_iconst e0_433 (x := 1) rfl ?_
          refine go_iconst e0_434 (x := 3) rfl ?_
          refine go_static_6 e0_435 (wd 19 rfl) (wd 20 rfl) (wd 21 rfl) (wd 4 rfl) hy_1 pd_7 rfl (c_same1 hw (n := 4) (s1 := 0) (i := 3) (K := 3) rfl rfl (by decide) (by decide) (by decide) (by decide) (by decide) (by decide) (by decide) rfl o3) rfl 0 rfl (by decide) (by decide) (by decide) (by decide) ?_
          rintro _ _ ⟨rfl, rfl⟩
          try simp only [List.replicate_succ, List.replicate_zero, List.set_cons_zero, List.set_cons_succ, List.length_nil, List.length_cons, Nat.zero_add, Nat.reduceAdd, List.nil_append, List.cons_append]
          refine go_ifeqN e0_438 (tg := 460) (by decide) (by decide) ?_
          refine go_aload e0_441 rfl rfl ?_
          refine go_aload e0_443 rfl rfl ?_
          refine go_iload e0_445 rfl ?_
          refine go_iconst e0_447 (x := 0) rfl ?_
          refine go_iconst e0_448 (x := 1) rfl ?_
          refine go_iconst e0_449 (x := 4) rfl ?_
          refine go_static_6 e0_450 (wd 19 rfl) (wd 20 rfl) (wd 21 rfl) (wd 4 rfl) hy_1 pd_7 rfl (c_same0 hw (n := 4) (i := 4) (by decide) (by decide) (by decide)) rfl 0 rfl (by decide) (by decide) (by decide) (by decide) ?_
          rintro _ _ ⟨rfl, rfl⟩
          try simp only [List.replicate_succ, List.replicate_zero, List.set_cons_zero, List.set_cons_succ, List.length_nil, List.length_cons, Nat.zero_add, Nat.reduceAdd, List.nil_append, List.cons_append]
          refine go_ifeqN e0_453 (tg := 460) (by decide) (by decide) ?_
          refine go_iconst e0_456 (x := 1) rfl ?_
          refine go_goto e0_457 (tg := 461) (by decide) ?_
          refine go_istore_16 e0_461 rfl ?_
          refine go_aload e0_463 rfl rfl ?_
          refine go_aload e0_465 rfl rfl ?_
          refine go_iload e0_467 rfl ?_
          refine go_iload e0_469 rfl ?_
          refine go_iload e0_471 rfl ?_
          refine go_iconst e0_473 (x := 0) rfl ?_
          refine go_static_6 e0_474 (wd 19 rfl) (wd 20 rfl) (wd 21 rfl) (wd 4 rfl) hy_1 pd_7 rfl (c_same1 hw (n := 4) (s1 := 3) (i := 0) (K := 3) rfl rfl (by decide) (by decide) (by decide) (by decide) (by decide) (by decide) (by decide) rfl rfl) rfl 0 rfl (by decide) (by decide) (by decide) (by decide) ?_
          rintro _ _ ⟨rfl, rfl⟩
          try simp only [List.replicate_succ, List.replicate_zero, List.set_cons_zero, List.set_cons_succ, List.length_nil, List.length_cons, Nat.zero_add, Nat.reduceAdd, List.nil_append, List.cons_append]
          refine go_ifeqN e0_477 (tg := 552) (by decide) (by decide) ?_
          refine go_aload e0_480 rfl rfl ?_
          refine go_aload e0_482 rfl rfl ?_
          refine go_iload e0_484 rfl ?_
          refine go_iload e0_486 rfl ?_
          refine go_iload e0_488 rfl ?_
          refine go_iconst e0_490 (x := 1) rfl ?_
          refine go_static_6 e0_491 (wd 19 rfl) (wd 20 rfl) (wd 21 rfl) (wd 4 rfl) hy_1 pd_7 rfl (c_same1 hw (n := 4) (s1 := 3) (i := 1) (K := 0) rfl rfl (by decide) (by decide) (by decide) (by decide) (by decide) (by decide) (by decide) rfl rfl) rfl 0 rfl (by decide) (by decide) (by decide) (by decide) ?_
          rintro _ _ ⟨rfl, rfl⟩
          try simp only [List.replicate_succ, List.replicate_zero, List.set_cons_zero, List.set_cons_succ, List.length_nil, List.length_cons, Nat.zero_add, Nat.reduceAdd, List.nil_append, List.cons_append]
          refine go_ifeqN e0_494 (tg := 552) (by decide) (by decide) ?_
          refine go_aload e0_497 rfl rfl ?_
          refine go_aload e0_499 rfl rfl ?_
          refine go_iload e0_501 rfl ?_
          refine go_iload e0_503 rfl ?_
          refine go_iload e0_505 rfl ?_
          refine go_iconst e0_507 (x := 2) rfl ?_
          refine go_static_6 e0_508 (wd 19 rfl) (wd 20 rfl) (wd 21 rfl) (wd 4 rfl) hy_1 pd_7 rfl (c_same1 hw (n := 4) (s1 := 3) (i := 2) (K := 1) rfl rfl (by decide) (by decide) (by decide) (by decide) (by decide) (by decide) (by decide) rfl rfl) rfl 0 rfl (by decide) (by decide) (by decide) (by decide) ?_
          rintro _ _ ⟨rfl, rfl⟩
          try simp only [List.replicate_succ, List.replicate_zero, List.set_cons_zero, List.set_cons_succ, List.length_nil, List.length_cons, Nat.zero_add, Nat.reduceAdd, List.nil_append, List.cons_append]
          refine go_ifeqN e0_511 (tg := 552) (by decide) (by decide) ?_
          refine go_aload e0_514 rfl rfl ?_
          refine go_aload e0_516 rfl rfl ?_
          refine go_iload e0_518 rfl ?_
          refine go_iload e0_520 rfl ?_
          refine go_iload e0_522 rfl ?_
          refine go_iconst e0_524 (x := 3) rfl ?_
          refine go_static_6 e0_525 (wd 19 rfl) (wd 20 rfl) (wd 21 rfl) (wd 4 rfl) hy_1 pd_7 rfl (c_same1 hw (n := 4) (s1 := 3) (i := 3) (K := 2) rfl rfl (by decide) (by decide) (by decide) (by decide) (by decide) (by decide) (by decide) rfl rfl) rfl 0 rfl (by decide) (by decide) (by decide) (by decide) ?_
          rintro _ _ ⟨rfl, rfl⟩
          try simp only [List.replicate_succ, List.replicate_zero, List.set_cons_zero, List.set_cons_succ, List.length_nil, List.length_cons, Nat.zero_add, Nat.reduceAdd, List.nil_append, List.cons_append]
          refine go_ifeqN e0_528 (tg := 552) (by decide) (by decide) ?_
          refine go_aload e0_531 rfl rfl ?_
          refine go_aload e0_533 rfl rfl ?_
          refine go_iload e0_535 rfl ?_
          refine go_iload e0_537 rfl ?_
          refine go_iload e0_539 rfl ?_
          refine go_iconst e0_541 (x := 4) rfl ?_
          refine go_static_6 e0_542 (wd 19 rfl) (wd 20 rfl) (wd 21 rfl) (wd 4 rfl) hy_1 pd_7 rfl (c_same0 hw (n := 4) (i := 4) (by decide) (by decide) (by decide)) rfl 0 rfl (by decide) (by decide) (by decide) (by decide) ?_
          rintro _ _ ⟨rfl, rfl⟩
          try simp only [List.replicate_succ, List.replicate_zero, List.set_cons_zero, List.set_cons_succ, List.length_nil, List.length_cons, Nat.zero_add, Nat.reduceAdd, List.nil_append, List.cons_append]
          refine go_ifeqN e0_545 (tg := 552) (by decide) (by decide) ?_
          refine go_iconst e0_548 (x := 1) rfl ?_
          refine go_goto e0_549 (tg := 553) (by decide) ?_
          refine go_istore_17 e0_553 rfl ?_
          refine go_iload e0_555 rfl ?_
          refine go_ifeqN e0_557 (tg := 569) (by decide) (by decide) ?_
          refine go_iload e0_560 rfl ?_
          refine go_ifeqN e0_562 (tg := 569) (by decide) (by decide) ?_
          refine go_iconst e0_565 (x := 1) rfl ?_
          refine go_goto e0_566 (tg := 570) (by decide) ?_
          refine go_zreturn e0_570 rfl (by decide) (by decide) (by decide) ?_
          exact rfl
    have J4 : ∀ (q1 q2 q3 : Int32) (ps : List Value) (k9 : Int32) (hq1 : ¬ q1 = 0) (hq2 : ¬ q2 = 0) (hq3 : ¬ q3 = 0) (hne : q1.toInt ≠ q3.toInt), Go C 173 [.val (.int i0), .val (.int i1), .val (.int i2), .val (.int i3), .val (.int 4), .val (.int 3), .val (.int c6), .val (.ref 0), .val (.ref 1), .val (.int k9), .unset, .unset, .unset, .unset, .unset, .unset, .unset, .unset] [] [ar .int ps, ar .int [.int q1, .int q2, .int q3, .int 0]] 2 8 := by
      intro q1 q2 q3 ps k9 hq1 hq2 hq3 hne
      refine go_iload e0_173 rfl ?_
      refine go_iconst e0_175 (x := 2) rfl ?_
      refine go_icltN e0_176 (tg := 197) (by decide) (by decide) ?_
      refine go_aload e0_179 rfl rfl ?_
      refine go_iconst e0_181 (x := 0) rfl ?_
      refine go_iaload e0_182 rfl (k := 0) (by decide) rfl ?_
      refine go_aload e0_183 rfl rfl ?_
      refine go_iload e0_185 rfl ?_
      refine go_iconst e0_187 (x := 1) rfl ?_
      refine go_isub e0_188 ?_
      refine go_iaload e0_189 rfl (k := 2) (by decide) rfl ?_
      refine go_icle e0_190 (tg := 197) (by decide) ?_ ?_
      · intro c190
        refine go_iconst e0_197 (x := 0) rfl ?_
        refine go_istore_10 e0_198 rfl ?_
        refine go_iload e0_200 rfl ?_
        refine go_newarray e0_202 (wd 1 rfl) (k := 4) rfl (vs := [.int 0, .int 0, .int 0, .int 0]) rfl (cap := 4) (by decide) (by decide) (by decide) (by decide) ?_
        simp only [List.replicate_succ, List.replicate_zero, List.set_cons_zero, List.set_cons_succ, List.length_nil, List.length_cons, Nat.zero_add, Nat.reduceAdd, List.nil_append, List.cons_append]
        refine go_astore_11 e0_204 rfl rfl ?_
        refine go_aload e0_206 rfl rfl ?_
        refine go_iconst e0_208 (x := 0) rfl ?_
        refine go_iconst e0_209 (x := 0) rfl ?_
        refine go_iastore e0_210 rfl (k := 0) (by decide) (Nat.le_of_ble_eq_true rfl) ?_
        simp only [List.replicate_succ, List.replicate_zero, List.set_cons_zero, List.set_cons_succ, List.length_nil, List.length_cons, Nat.zero_add, Nat.reduceAdd, List.nil_append, List.cons_append]
        refine go_aload e0_211 rfl rfl ?_
        refine go_aload e0_213 rfl rfl ?_
        refine go_iload e0_215 rfl ?_
        refine go_iconst e0_217 (x := 0) rfl ?_
        refine go_iload e0_218 rfl ?_
        refine go_staticV_5 e0_220 (wd 6 rfl) (wd 7 rfl) (wd 8 rfl) (wd 4 rfl) hy_1 pd_8 rfl (c_put1 hw (i := 0) (m0 := 3) (x0 := q1) rfl rfl (by decide) (by decide) (by decide) (by decide) (Nat.le_of_ble_eq_true rfl) (fun _ => rfl) (fun z => absurd rfl z)) rfl 0 rfl (by decide) (by decide) (by decide) (by decide) ?_
        rintro _ rfl
        try simp only [List.replicate_succ, List.replicate_zero, List.set_cons_zero, List.set_cons_succ, List.length_nil, List.length_cons, Nat.zero_add, Nat.reduceAdd, List.nil_append, List.cons_append]
        refine go_aload e0_223 rfl rfl ?_
        refine go_aload e0_225 rfl rfl ?_
        refine go_iload e0_227 rfl ?_
        refine go_iconst e0_229 (x := 1) rfl ?_
        refine go_iload e0_230 rfl ?_
        refine go_staticV_5 e0_232 (wd 6 rfl) (wd 7 rfl) (wd 8 rfl) (wd 4 rfl) hy_1 pd_8 rfl (c_put1 hw (i := 1) (m0 := 3) (x0 := q2) rfl rfl (by decide) (by decide) (by decide) (by decide) (Nat.le_of_ble_eq_true rfl) (fun _ => rfl) (fun z => absurd rfl z)) rfl 0 rfl (by decide) (by decide) (by decide) (by decide) ?_
        rintro _ rfl
        try simp only [List.replicate_succ, List.replicate_zero, List.set_cons_zero, List.set_cons_succ, List.length_nil, List.length_cons, Nat.zero_add, Nat.reduceAdd, List.nil_append, List.cons_append]
        refine go_aload e0_235 rfl rfl ?_
        refine go_aload e0_237 rfl rfl ?_
        refine go_iload e0_239 rfl ?_
        refine go_iconst e0_241 (x := 2) rfl ?_
        refine go_iload e0_242 rfl ?_
        refine go_staticV_5 e0_244 (wd 6 rfl) (wd 7 rfl) (wd 8 rfl) (wd 4 rfl) hy_1 pd_8 rfl (c_put1 hw (i := 2) (m0 := 3) (x0 := q3) rfl rfl (by decide) (by decide) (by decide) (by decide) (Nat.le_of_ble_eq_true rfl) (fun _ => rfl) (fun z => absurd rfl z)) rfl 0 rfl (by decide) (by decide) (by decide) (by decide) ?_
        rintro _ rfl
        try simp only [List.replicate_succ, List.replicate_zero, List.set_cons_zero, List.set_cons_succ, List.length_nil, List.length_cons, Nat.zero_add, Nat.reduceAdd, List.nil_append, List.cons_append]
        refine go_aload e0_247 rfl rfl ?_
        refine go_aload e0_249 rfl rfl ?_
        refine go_iload e0_251 rfl ?_
        refine go_iconst e0_253 (x := 3) rfl ?_
        refine go_iload e0_254 rfl ?_
        refine go_staticV_5 e0_256 (wd 6 rfl) (wd 7 rfl) (wd 8 rfl) (wd 4 rfl) hy_1 pd_8 rfl (c_put0 hw (i := 3) (m0 := 3) (by decide) (by decide) (by decide)) rfl 0 rfl (by decide) (by decide) (by decide) (by decide) ?_
        rintro _ rfl
        try simp only [List.replicate_succ, List.replicate_zero, List.set_cons_zero, List.set_cons_succ, List.length_nil, List.length_cons, Nat.zero_add, Nat.reduceAdd, List.nil_append, List.cons_append]
        exact J5 q1 q2 q3 _ _ _ _ hq1 hq2 hq3 (by omega)
      · intro c190
        refine go_iconst e0_193 (x := 1) rfl ?_
        refine go_goto e0_194 (tg := 198) (by decide) ?_
        refine go_istore_10 e0_198 rfl ?_
        refine go_iload e0_200 rfl ?_
        refine go_newarray e0_202 (wd 1 rfl) (k := 4) rfl (vs := [.int 0, .int 0, .int 0, .int 0]) rfl (cap := 4) (by decide) (by decide) (by decide) (by decide) ?_
        simp only [List.replicate_succ, List.replicate_zero, List.set_cons_zero, List.set_cons_succ, List.length_nil, List.length_cons, Nat.zero_add, Nat.reduceAdd, List.nil_append, List.cons_append]
        refine go_astore_11 e0_204 rfl rfl ?_
        refine go_aload e0_206 rfl rfl ?_
        refine go_iconst e0_208 (x := 0) rfl ?_
        refine go_iconst e0_209 (x := 0) rfl ?_
        refine go_iastore e0_210 rfl (k := 0) (by decide) (Nat.le_of_ble_eq_true rfl) ?_
        simp only [List.replicate_succ, List.replicate_zero, List.set_cons_zero, List.set_cons_succ, List.length_nil, List.length_cons, Nat.zero_add, Nat.reduceAdd, List.nil_append, List.cons_append]
        refine go_aload e0_211 rfl rfl ?_
        refine go_aload e0_213 rfl rfl ?_
        refine go_iload e0_215 rfl ?_
        refine go_iconst e0_217 (x := 0) rfl ?_
        refine go_iload e0_218 rfl ?_
        refine go_staticV_5 e0_220 (wd 6 rfl) (wd 7 rfl) (wd 8 rfl) (wd 4 rfl) hy_1 pd_8 rfl (c_put1 hw (i := 0) (m0 := 3) (x0 := q3) rfl rfl (by decide) (by decide) (by decide) (by decide) (Nat.le_of_ble_eq_true rfl) (fun z => absurd z (by decide)) (fun _ => rfl)) rfl 0 rfl (by decide) (by decide) (by decide) (by decide) ?_
        rintro _ rfl
        try simp only [List.replicate_succ, List.replicate_zero, List.set_cons_zero, List.set_cons_succ, List.length_nil, List.length_cons, Nat.zero_add, Nat.reduceAdd, List.nil_append, List.cons_append]
        refine go_aload e0_223 rfl rfl ?_
        refine go_aload e0_225 rfl rfl ?_
        refine go_iload e0_227 rfl ?_
        refine go_iconst e0_229 (x := 1) rfl ?_
        refine go_iload e0_230 rfl ?_
        refine go_staticV_5 e0_232 (wd 6 rfl) (wd 7 rfl) (wd 8 rfl) (wd 4 rfl) hy_1 pd_8 rfl (c_put1 hw (i := 1) (m0 := 3) (x0 := q2) rfl rfl (by decide) (by decide) (by decide) (by decide) (Nat.le_of_ble_eq_true rfl) (fun z => absurd z (by decide)) (fun _ => rfl)) rfl 0 rfl (by decide) (by decide) (by decide) (by decide) ?_
        rintro _ rfl
        try simp only [List.replicate_succ, List.replicate_zero, List.set_cons_zero, List.set_cons_succ, List.length_nil, List.length_cons, Nat.zero_add, Nat.reduceAdd, List.nil_append, List.cons_append]
        refine go_aload e0_235 rfl rfl ?_
        refine go_aload e0_237 rfl rfl ?_
        refine go_iload e0_239 rfl ?_
        refine go_iconst e0_241 (x := 2) rfl ?_
        refine go_iload e0_242 rfl ?_
        refine go_staticV_5 e0_244 (wd 6 rfl) (wd 7 rfl) (wd 8 rfl) (wd 4 rfl) hy_1 pd_8 rfl (c_put1 hw (i := 2) (m0 := 3) (x0 := q1) rfl rfl (by decide) (by decide) (by decide) (by decide) (Nat.le_of_ble_eq_true rfl) (fun z => absurd z (by decide)) (fun _ => rfl)) rfl 0 rfl (by decide) (by decide) (by decide) (by decide) ?_
        rintro _ rfl
        try simp only [List.replicate_succ, List.replicate_zero, List.set_cons_zero, List.set_cons_succ, List.length_nil, List.length_cons, Nat.zero_add, Nat.reduceAdd, List.nil_append, List.cons_append]
        refine go_aload e0_247 rfl rfl ?_
        refine go_aload e0_249 rfl rfl ?_
        refine go_iload e0_251 rfl ?_
        refine go_iconst e0_253 (x := 3) rfl ?_
        refine go_iload e0_254 rfl ?_
        refine go_staticV_5 e0_256 (wd 6 rfl) (wd 7 rfl) (wd 8 rfl) (wd 4 rfl) hy_1 pd_8 rfl (c_put0 hw (i := 3) (m0 := 3) (by decide) (by decide) (by decide)) rfl 0 rfl (by decide) (by decide) (by decide) (by decide) ?_
        rintro _ rfl
        try simp only [List.replicate_succ, List.replicate_zero, List.set_cons_zero, List.set_cons_succ, List.length_nil, List.length_cons, Nat.zero_add, Nat.reduceAdd, List.nil_append, List.cons_append]
        exact J5 q3 q2 q1 _ _ _ _ hq3 hq2 hq1 (by omega)
    have J3 : ∀ (p0 p1 p2 p3 : Int32), D4 p0 p1 p2 p3 → Go C 89 [.val (.int i0), .val (.int i1), .val (.int i2), .val (.int i3), .val (.int 4), .val (.int 3), .val (.int c6), .val (.ref 0), .val (.ref 1), .val (.int 0), .unset, .unset, .unset, .unset, .unset, .unset, .unset, .unset] [] [ar .int [.int p0, .int p1, .int p2, .int p3], ar .int [.int 0, .int 0, .int 0, .int 0]] 2 8 := by
      intro p0 p1 p2 p3 hD
      unfold D4 at hD
      have km : (3 : Int32).toInt = 3 := rfl
      refine go_aload e0_89 rfl rfl ?_
      refine go_iconst e0_91 (x := 0) rfl ?_
      refine go_iaload e0_92 rfl (k := 0) (by decide) rfl ?_
      refine go_iload e0_93 rfl ?_
      refine go_icgt e0_95 (tg := 110) (by decide) ?_ ?_
      · intro c95
        refine go_aload e0_110 rfl rfl ?_
        refine go_iconst e0_112 (x := 1) rfl ?_
        refine go_iaload e0_113 rfl (k := 1) (by decide) rfl ?_
        refine go_iload e0_114 rfl ?_
        refine go_icgt e0_116 (tg := 131) (by decide) ?_ ?_
        · intro c116
          refine go_aload e0_131 rfl rfl ?_
          refine go_iconst e0_133 (x := 2) rfl ?_
          refine go_iaload e0_134 rfl (k := 2) (by decide) rfl ?_
          refine go_iload e0_135 rfl ?_
          refine go_icgt e0_137 (tg := 152) (by decide) ?_ ?_
          · intro c137
            refine go_aload e0_152 rfl rfl ?_
            refine go_iconst e0_154 (x := 3) rfl ?_
            refine go_iaload e0_155 rfl (k := 3) (by decide) rfl ?_
            refine go_iload e0_156 rfl ?_
            refine go_icgt e0_158 (tg := 173) (by decide) ?_ ?_
            · intro c158
              exfalso; omega
            · intro c158
              refine go_aload e0_161 rfl rfl ?_
              refine go_iload e0_163 rfl ?_
              refine go_aload e0_165 rfl rfl ?_
              refine go_iconst e0_167 (x := 3) rfl ?_
              refine go_iaload e0_168 rfl (k := 3) (by decide) rfl ?_
              refine go_iastore e0_169 rfl (k := 0) (by decide) (Nat.le_of_ble_eq_true rfl) ?_
              simp only [List.replicate_succ, List.replicate_zero, List.set_cons_zero, List.set_cons_succ, List.length_nil, List.length_cons, Nat.zero_add, Nat.reduceAdd, List.nil_append, List.cons_append]
              refine go_iinc_9 e0_170 (z := 1) rfl ?_
              exfalso; omega
          · intro c137
            refine go_aload e0_140 rfl rfl ?_
            refine go_iload e0_142 rfl ?_
            refine go_aload e0_144 rfl rfl ?_
            refine go_iconst e0_146 (x := 2) rfl ?_
            refine go_iaload e0_147 rfl (k := 2) (by decide) rfl ?_
            refine go_iastore e0_148 rfl (k := 0) (by decide) (Nat.le_of_ble_eq_true rfl) ?_
            simp only [List.replicate_succ, List.replicate_zero, List.set_cons_zero, List.set_cons_succ, List.length_nil, List.length_cons, Nat.zero_add, Nat.reduceAdd, List.nil_append, List.cons_append]
            refine go_iinc_9 e0_149 (z := 1) rfl ?_
            refine go_aload e0_152 rfl rfl ?_
            refine go_iconst e0_154 (x := 3) rfl ?_
            refine go_iaload e0_155 rfl (k := 3) (by decide) rfl ?_
            refine go_iload e0_156 rfl ?_
            refine go_icgt e0_158 (tg := 173) (by decide) ?_ ?_
            · intro c158
              exfalso; omega
            · intro c158
              refine go_aload e0_161 rfl rfl ?_
              refine go_iload e0_163 rfl ?_
              refine go_aload e0_165 rfl rfl ?_
              refine go_iconst e0_167 (x := 3) rfl ?_
              refine go_iaload e0_168 rfl (k := 3) (by decide) rfl ?_
              refine go_iastore e0_169 rfl (k := 1) (by decide) (Nat.le_of_ble_eq_true rfl) ?_
              simp only [List.replicate_succ, List.replicate_zero, List.set_cons_zero, List.set_cons_succ, List.length_nil, List.length_cons, Nat.zero_add, Nat.reduceAdd, List.nil_append, List.cons_append]
              refine go_iinc_9 e0_170 (z := 1) rfl ?_
              exfalso; omega
        · intro c116
          refine go_aload e0_119 rfl rfl ?_
          refine go_iload e0_121 rfl ?_
          refine go_aload e0_123 rfl rfl ?_
          refine go_iconst e0_125 (x := 1) rfl ?_
          refine go_iaload e0_126 rfl (k := 1) (by decide) rfl ?_
          refine go_iastore e0_127 rfl (k := 0) (by decide) (Nat.le_of_ble_eq_true rfl) ?_
          simp only [List.replicate_succ, List.replicate_zero, List.set_cons_zero, List.set_cons_succ, List.length_nil, List.length_cons, Nat.zero_add, Nat.reduceAdd, List.nil_append, List.cons_append]
          refine go_iinc_9 e0_128 (z := 1) rfl ?_
          refine go_aload e0_131 rfl rfl ?_
          refine go_iconst e0_133 (x := 2) rfl ?_
          refine go_iaload e0_134 rfl (k := 2) (by decide) rfl ?_
          refine go_iload e0_135 rfl ?_
          refine go_icgt e0_137 (tg := 152) (by decide) ?_ ?_
          · intro c137
            refine go_aload e0_152 rfl rfl ?_
            refine go_iconst e0_154 (x := 3) rfl ?_
            refine go_iaload e0_155 rfl (k := 3) (by decide) rfl ?_
            refine go_iload e0_156 rfl ?_
            refine go_icgt e0_158 (tg := 173) (by decide) ?_ ?_
            · intro c158
              exfalso; omega
            · intro c158
              refine go_aload e0_161 rfl rfl ?_
              refine go_iload e0_163 rfl ?_
              refine go_aload e0_165 rfl rfl ?_
              refine go_iconst e0_167 (x := 3) rfl ?_
              refine go_iaload e0_168 rfl (k := 3) (by decide) rfl ?_
              refine go_iastore e0_169 rfl (k := 1) (by decide) (Nat.le_of_ble_eq_true rfl) ?_
              simp only [List.replicate_succ, List.replicate_zero, List.set_cons_zero, List.set_cons_succ, List.length_nil, List.length_cons, Nat.zero_add, Nat.reduceAdd, List.nil_append, List.cons_append]
              refine go_iinc_9 e0_170 (z := 1) rfl ?_
              exfalso; omega
          · intro c137
            refine go_aload e0_140 rfl rfl ?_
            refine go_iload e0_142 rfl ?_
            refine go_aload e0_144 rfl rfl ?_
            refine go_iconst e0_146 (x := 2) rfl ?_
            refine go_iaload e0_147 rfl (k := 2) (by decide) rfl ?_
            refine go_iastore e0_148 rfl (k := 1) (by decide) (Nat.le_of_ble_eq_true rfl) ?_
            simp only [List.replicate_succ, List.replicate_zero, List.set_cons_zero, List.set_cons_succ, List.length_nil, List.length_cons, Nat.zero_add, Nat.reduceAdd, List.nil_append, List.cons_append]
            refine go_iinc_9 e0_149 (z := 1) rfl ?_
            refine go_aload e0_152 rfl rfl ?_
            refine go_iconst e0_154 (x := 3) rfl ?_
            refine go_iaload e0_155 rfl (k := 3) (by decide) rfl ?_
            refine go_iload e0_156 rfl ?_
            refine go_icgt e0_158 (tg := 173) (by decide) ?_ ?_
            · intro c158
              exfalso; omega
            · intro c158
              refine go_aload e0_161 rfl rfl ?_
              refine go_iload e0_163 rfl ?_
              refine go_aload e0_165 rfl rfl ?_
              refine go_iconst e0_167 (x := 3) rfl ?_
              refine go_iaload e0_168 rfl (k := 3) (by decide) rfl ?_
              refine go_iastore e0_169 rfl (k := 2) (by decide) (Nat.le_of_ble_eq_true rfl) ?_
              simp only [List.replicate_succ, List.replicate_zero, List.set_cons_zero, List.set_cons_succ, List.length_nil, List.length_cons, Nat.zero_add, Nat.reduceAdd, List.nil_append, List.cons_append]
              refine go_iinc_9 e0_170 (z := 1) rfl ?_
              exact J4 p1 p2 p3 _ _ (own_ne0 (by omega)) (own_ne0 (by omega)) (own_ne0 (by omega)) (by omega)
      · intro c95
        refine go_aload e0_98 rfl rfl ?_
        refine go_iload e0_100 rfl ?_
        refine go_aload e0_102 rfl rfl ?_
        refine go_iconst e0_104 (x := 0) rfl ?_
        refine go_iaload e0_105 rfl (k := 0) (by decide) rfl ?_
        refine go_iastore e0_106 rfl (k := 0) (by decide) (Nat.le_of_ble_eq_true rfl) ?_
        simp only [List.replicate_succ, List.replicate_zero, List.set_cons_zero, List.set_cons_succ, List.length_nil, List.length_cons, Nat.zero_add, Nat.reduceAdd, List.nil_append, List.cons_append]
        refine go_iinc_9 e0_107 (z := 1) rfl ?_
        refine go_aload e0_110 rfl rfl ?_
        refine go_iconst e0_112 (x := 1) rfl ?_
        refine go_iaload e0_113 rfl (k := 1) (by decide) rfl ?_
        refine go_iload e0_114 rfl ?_
        refine go_icgt e0_116 (tg := 131) (by decide) ?_ ?_
        · intro c116
          refine go_aload e0_131 rfl rfl ?_
          refine go_iconst e0_133 (x := 2) rfl ?_
          refine go_iaload e0_134 rfl (k := 2) (by decide) rfl ?_
          refine go_iload e0_135 rfl ?_
          refine go_icgt e0_137 (tg := 152) (by decide) ?_ ?_
          · intro c137
            refine go_aload e0_152 rfl rfl ?_
            refine go_iconst e0_154 (x := 3) rfl ?_
            refine go_iaload e0_155 rfl (k := 3) (by decide) rfl ?_
            refine go_iload e0_156 rfl ?_
            refine go_icgt e0_158 (tg := 173) (by decide) ?_ ?_
            · intro c158
              exfalso; omega
            · intro c158
              refine go_aload e0_161 rfl rfl ?_
              refine go_iload e0_163 rfl ?_
              refine go_aload e0_165 rfl rfl ?_
              refine go_iconst e0_167 (x := 3) rfl ?_
              refine go_iaload e0_168 rfl (k := 3) (by decide) rfl ?_
              refine go_iastore e0_169 rfl (k := 1) (by decide) (Nat.le_of_ble_eq_true rfl) ?_
              simp only [List.replicate_succ, List.replicate_zero, List.set_cons_zero, List.set_cons_succ, List.length_nil, List.length_cons, Nat.zero_add, Nat.reduceAdd, List.nil_append, List.cons_append]
              refine go_iinc_9 e0_170 (z := 1) rfl ?_
              exfalso; omega
          · intro c137
            refine go_aload e0_140 rfl rfl ?_
            refine go_iload e0_142 rfl ?_
            refine go_aload e0_144 rfl rfl ?_
            refine go_iconst e0_146 (x := 2) rfl ?_
            refine go_iaload e0_147 rfl (k := 2) (by decide) rfl ?_
            refine go_iastore e0_148 rfl (k := 1) (by decide) (Nat.le_of_ble_eq_true rfl) ?_
            simp only [List.replicate_succ, List.replicate_zero, List.set_cons_zero, List.set_cons_succ, List.length_nil, List.length_cons, Nat.zero_add, Nat.reduceAdd, List.nil_append, List.cons_append]
            refine go_iinc_9 e0_149 (z := 1) rfl ?_
            refine go_aload e0_152 rfl rfl ?_
            refine go_iconst e0_154 (x := 3) rfl ?_
            refine go_iaload e0_155 rfl (k := 3) (by decide) rfl ?_
            refine go_iload e0_156 rfl ?_
            refine go_icgt e0_158 (tg := 173) (by decide) ?_ ?_
            · intro c158
              exfalso; omega
            · intro c158
              refine go_aload e0_161 rfl rfl ?_
              refine go_iload e0_163 rfl ?_
              refine go_aload e0_165 rfl rfl ?_
              refine go_iconst e0_167 (x := 3) rfl ?_
              refine go_iaload e0_168 rfl (k := 3) (by decide) rfl ?_
              refine go_iastore e0_169 rfl (k := 2) (by decide) (Nat.le_of_ble_eq_true rfl) ?_
              simp only [List.replicate_succ, List.replicate_zero, List.set_cons_zero, List.set_cons_succ, List.length_nil, List.length_cons, Nat.zero_add, Nat.reduceAdd, List.nil_append, List.cons_append]
              refine go_iinc_9 e0_170 (z := 1) rfl ?_
              exact J4 p0 p2 p3 _ _ (own_ne0 (by omega)) (own_ne0 (by omega)) (own_ne0 (by omega)) (by omega)
        · intro c116
          refine go_aload e0_119 rfl rfl ?_
          refine go_iload e0_121 rfl ?_
          refine go_aload e0_123 rfl rfl ?_
          refine go_iconst e0_125 (x := 1) rfl ?_
          refine go_iaload e0_126 rfl (k := 1) (by decide) rfl ?_
          refine go_iastore e0_127 rfl (k := 1) (by decide) (Nat.le_of_ble_eq_true rfl) ?_
          simp only [List.replicate_succ, List.replicate_zero, List.set_cons_zero, List.set_cons_succ, List.length_nil, List.length_cons, Nat.zero_add, Nat.reduceAdd, List.nil_append, List.cons_append]
          refine go_iinc_9 e0_128 (z := 1) rfl ?_
          refine go_aload e0_131 rfl rfl ?_
          refine go_iconst e0_133 (x := 2) rfl ?_
          refine go_iaload e0_134 rfl (k := 2) (by decide) rfl ?_
          refine go_iload e0_135 rfl ?_
          refine go_icgt e0_137 (tg := 152) (by decide) ?_ ?_
          · intro c137
            refine go_aload e0_152 rfl rfl ?_
            refine go_iconst e0_154 (x := 3) rfl ?_
            refine go_iaload e0_155 rfl (k := 3) (by decide) rfl ?_
            refine go_iload e0_156 rfl ?_
            refine go_icgt e0_158 (tg := 173) (by decide) ?_ ?_
            · intro c158
              exfalso; omega
            · intro c158
              refine go_aload e0_161 rfl rfl ?_
              refine go_iload e0_163 rfl ?_
              refine go_aload e0_165 rfl rfl ?_
              refine go_iconst e0_167 (x := 3) rfl ?_
              refine go_iaload e0_168 rfl (k := 3) (by decide) rfl ?_
              refine go_iastore e0_169 rfl (k := 2) (by decide) (Nat.le_of_ble_eq_true rfl) ?_
              simp only [List.replicate_succ, List.replicate_zero, List.set_cons_zero, List.set_cons_succ, List.length_nil, List.length_cons, Nat.zero_add, Nat.reduceAdd, List.nil_append, List.cons_append]
              refine go_iinc_9 e0_170 (z := 1) rfl ?_
              exact J4 p0 p1 p3 _ _ (own_ne0 (by omega)) (own_ne0 (by omega)) (own_ne0 (by omega)) (by omega)
          · intro c137
            refine go_aload e0_140 rfl rfl ?_
            refine go_iload e0_142 rfl ?_
            refine go_aload e0_144 rfl rfl ?_
            refine go_iconst e0_146 (x := 2) rfl ?_
            refine go_iaload e0_147 rfl (k := 2) (by decide) rfl ?_
            refine go_iastore e0_148 rfl (k := 2) (by decide) (Nat.le_of_ble_eq_true rfl) ?_
            simp only [List.replicate_succ, List.replicate_zero, List.set_cons_zero, List.set_cons_succ, List.length_nil, List.length_cons, Nat.zero_add, Nat.reduceAdd, List.nil_append, List.cons_append]
            refine go_iinc_9 e0_149 (z := 1) rfl ?_
            refine go_aload e0_152 rfl rfl ?_
            refine go_iconst e0_154 (x := 3) rfl ?_
            refine go_iaload e0_155 rfl (k := 3) (by decide) rfl ?_
            refine go_iload e0_156 rfl ?_
            refine go_icgt e0_158 (tg := 173) (by decide) ?_ ?_
            · intro c158
              exact J4 p0 p1 p2 _ _ (own_ne0 (by omega)) (own_ne0 (by omega)) (own_ne0 (by omega)) (by omega)
            · intro c158
              refine go_aload e0_161 rfl rfl ?_
              refine go_iload e0_163 rfl ?_
              refine go_aload e0_165 rfl rfl ?_
              refine go_iconst e0_167 (x := 3) rfl ?_
              refine go_iaload e0_168 rfl (k := 3) (by decide) rfl ?_
              refine go_iastore e0_169 rfl (k := 3) (by decide) (Nat.le_of_ble_eq_true rfl) ?_
              simp only [List.replicate_succ, List.replicate_zero, List.set_cons_zero, List.set_cons_succ, List.length_nil, List.length_cons, Nat.zero_add, Nat.reduceAdd, List.nil_append, List.cons_append]
              refine go_iinc_9 e0_170 (z := 1) rfl ?_
              exfalso; omega
    have J81 : ∀ (p0 p1 p2 p3 : Int32), D4 p0 p1 p2 p3 → Go C 81 [.val (.int i0), .val (.int i1), .val (.int i2), .val (.int i3), .val (.int 4), .val (.int 3), .val (.int c6), .val (.ref 0), .unset, .unset, .unset, .unset, .unset, .unset, .unset, .unset, .unset, .unset] [] [ar .int [.int p0, .int p1, .int p2, .int p3]] 1 4 := by
      intro p0 p1 p2 p3 hD
      refine go_iconst e0_81 (x := 4) rfl ?_
      refine go_newarray e0_82 (wd 1 rfl) (k := 4) rfl (vs := [.int 0, .int 0, .int 0, .int 0]) rfl (cap := 4) (by decide) (by decide) (by decide) (by decide) ?_
      simp only [List.replicate_succ, List.replicate_zero, List.set_cons_zero, List.set_cons_succ, List.length_nil, List.length_cons, Nat.zero_add, Nat.reduceAdd, List.nil_append, List.cons_append]
      refine go_astore_8 e0_84 rfl rfl ?_
      refine go_iconst e0_86 (x := 0) rfl ?_
      refine go_istore_9 e0_87 rfl ?_
      exact J3 _ _ _ _ hD
    have J2 : ∀ (p0 p1 p2 p3 : Int32), D4 p0 p1 p2 p3 → Go C 68 [.val (.int i0), .val (.int i1), .val (.int i2), .val (.int i3), .val (.int 4), .val (.int 3), .val (.int c6), .val (.ref 0), .unset, .unset, .unset, .unset, .unset, .unset, .unset, .unset, .unset, .unset] [] [ar .int [.int p0, .int p1, .int p2, .int p3]] 1 4 := by
      intro p0 p1 p2 p3 hD
      refine go_aload e0_68 rfl rfl ?_
      refine go_iconst e0_70 (x := 1) rfl ?_
      refine go_iload e0_71 rfl ?_
      refine go_bipush e0_73 (x := 12) rfl ?_
      refine go_idiv e0_75 (by decide) ?_
      refine go_iconst e0_76 (x := 2) rfl ?_
      refine go_irem e0_77 (by decide) ?_
      have he : (c6 / 12 % 2).toInt = 0 ∨ (c6 / 12 % 2).toInt = 1 := by
        have h0 := (c_idiv c6 12 12 (by decide) (by decide)).1 hc0
        have h1 := (c_irem (c6 / 12) 2 2 (by decide)).1 (by omega)
        omega
      rcases he with e | e
      · refine go_staticV_3 e0_78 (wd 2 rfl) (wd 3 rfl) (wd 5 rfl) (wd 4 rfl) hy_1 pd_9 rfl (c_swap hw (i := 1) (j := 0) rfl (by decide) e rfl rfl) rfl 0 rfl (by decide) (by decide) (by decide) (by decide) ?_
        rintro _ rfl
        try simp only [List.replicate_succ, List.replicate_zero, List.set_cons_zero, List.set_cons_succ, List.length_nil, List.length_cons, Nat.zero_add, Nat.reduceAdd, List.nil_append, List.cons_append]
        exact J81 p1 p0 p2 p3 (by unfold D4 at hD ⊢; omega)
      · refine go_staticV_3 e0_78 (wd 2 rfl) (wd 3 rfl) (wd 5 rfl) (wd 4 rfl) hy_1 pd_9 rfl (c_swap hw (i := 1) (j := 1) rfl (by decide) e rfl rfl) rfl 0 rfl (by decide) (by decide) (by decide) (by decide) ?_
        rintro _ rfl
        try simp only [List.replicate_succ, List.replicate_zero, List.set_cons_zero, List.set_cons_succ, List.length_nil, List.length_cons, Nat.zero_add, Nat.reduceAdd, List.nil_append, List.cons_append]
        exact J81 p0 p1 p2 p3 (by unfold D4 at hD ⊢; omega)
    have J1 : ∀ (p0 p1 p2 p3 : Int32), D4 p0 p1 p2 p3 → Go C 56 [.val (.int i0), .val (.int i1), .val (.int i2), .val (.int i3), .val (.int 4), .val (.int 3), .val (.int c6), .val (.ref 0), .unset, .unset, .unset, .unset, .unset, .unset, .unset, .unset, .unset, .unset] [] [ar .int [.int p0, .int p1, .int p2, .int p3]] 1 4 := by
      intro p0 p1 p2 p3 hD
      refine go_aload e0_56 rfl rfl ?_
      refine go_iconst e0_58 (x := 2) rfl ?_
      refine go_iload e0_59 rfl ?_
      refine go_iconst e0_61 (x := 4) rfl ?_
      refine go_idiv e0_62 (by decide) ?_
      refine go_iconst e0_63 (x := 3) rfl ?_
      refine go_irem e0_64 (by decide) ?_
      have he : (c6 / 4 % 3).toInt = 0 ∨ (c6 / 4 % 3).toInt = 1 ∨ (c6 / 4 % 3).toInt = 2 := by
        have h0 := (c_idiv c6 4 4 (by decide) (by decide)).1 hc0
        have h1 := (c_irem (c6 / 4) 3 3 (by decide)).1 (by omega)
        omega
      rcases he with e | e | e
      · refine go_staticV_3 e0_65 (wd 2 rfl) (wd 3 rfl) (wd 5 rfl) (wd 4 rfl) hy_1 pd_9 rfl (c_swap hw (i := 2) (j := 0) rfl (by decide) e rfl rfl) rfl 0 rfl (by decide) (by decide) (by decide) (by decide) ?_
        rintro _ rfl
        try simp only [List.replicate_succ, List.replicate_zero, List.set_cons_zero, List.set_cons_succ, List.length_nil, List.length_cons, Nat.zero_add, Nat.reduceAdd, List.nil_append, List.cons_append]
        exact J2 p2 p1 p0 p3 (by unfold D4 at hD ⊢; omega)
      · refine go_staticV_3 e0_65 (wd 2 rfl) (wd 3 rfl) (wd 5 rfl) (wd 4 rfl) hy_1 pd_9 rfl (c_swap hw (i := 2) (j := 1) rfl (by decide) e rfl rfl) rfl 0 rfl (by decide) (by decide) (by decide) (by decide) ?_
        rintro _ rfl
        try simp only [List.replicate_succ, List.replicate_zero, List.set_cons_zero, List.set_cons_succ, List.length_nil, List.length_cons, Nat.zero_add, Nat.reduceAdd, List.nil_append, List.cons_append]
        exact J2 p0 p2 p1 p3 (by unfold D4 at hD ⊢; omega)
      · refine go_staticV_3 e0_65 (wd 2 rfl) (wd 3 rfl) (wd 5 rfl) (wd 4 rfl) hy_1 pd_9 rfl (c_swap hw (i := 2) (j := 2) rfl (by decide) e rfl rfl) rfl 0 rfl (by decide) (by decide) (by decide) (by decide) ?_
        rintro _ rfl
        try simp only [List.replicate_succ, List.replicate_zero, List.set_cons_zero, List.set_cons_succ, List.length_nil, List.length_cons, Nat.zero_add, Nat.reduceAdd, List.nil_append, List.cons_append]
        exact J2 p0 p1 p2 p3 (by unfold D4 at hD ⊢; omega)
    refine go_iconst e0_25 (x := 4) rfl ?_
    refine go_newarray e0_26 (wd 1 rfl) (k := 4) rfl (vs := [.int 0, .int 0, .int 0, .int 0]) rfl (cap := 4) (by decide) (by decide) (by decide) (by decide) ?_
    simp only [List.replicate_succ, List.replicate_zero, List.set_cons_zero, List.set_cons_succ, List.length_nil, List.length_cons, Nat.zero_add, Nat.reduceAdd, List.nil_append, List.cons_append]
    refine go_dup e0_28 rfl ?_
    refine go_iconst e0_29 (x := 0) rfl ?_
    refine go_iconst e0_30 (x := 1) rfl ?_
    refine go_iastore e0_31 rfl (k := 0) (by decide) (Nat.le_of_ble_eq_true rfl) ?_
    simp only [List.replicate_succ, List.replicate_zero, List.set_cons_zero, List.set_cons_succ, List.length_nil, List.length_cons, Nat.zero_add, Nat.reduceAdd, List.nil_append, List.cons_append]
    refine go_dup e0_32 rfl ?_
    refine go_iconst e0_33 (x := 1) rfl ?_
    refine go_iconst e0_34 (x := 2) rfl ?_
    refine go_iastore e0_35 rfl (k := 1) (by decide) (Nat.le_of_ble_eq_true rfl) ?_
    simp only [List.replicate_succ, List.replicate_zero, List.set_cons_zero, List.set_cons_succ, List.length_nil, List.length_cons, Nat.zero_add, Nat.reduceAdd, List.nil_append, List.cons_append]
    refine go_dup e0_36 rfl ?_
    refine go_iconst e0_37 (x := 2) rfl ?_
    refine go_iconst e0_38 (x := 3) rfl ?_
    refine go_iastore e0_39 rfl (k := 2) (by decide) (Nat.le_of_ble_eq_true rfl) ?_
    simp only [List.replicate_succ, List.replicate_zero, List.set_cons_zero, List.set_cons_succ, List.length_nil, List.length_cons, Nat.zero_add, Nat.reduceAdd, List.nil_append, List.cons_append]
    refine go_dup e0_40 rfl ?_
    refine go_iconst e0_41 (x := 3) rfl ?_
    refine go_iconst e0_42 (x := 4) rfl ?_
    refine go_iastore e0_43 rfl (k := 3) (by decide) (Nat.le_of_ble_eq_true rfl) ?_
    simp only [List.replicate_succ, List.replicate_zero, List.set_cons_zero, List.set_cons_succ, List.length_nil, List.length_cons, Nat.zero_add, Nat.reduceAdd, List.nil_append, List.cons_append]
    refine go_astore_7 e0_44 rfl rfl ?_
    refine go_aload e0_46 rfl rfl ?_
    refine go_iconst e0_48 (x := 3) rfl ?_
    refine go_iload e0_49 rfl ?_
    refine go_iconst e0_51 (x := 4) rfl ?_
    refine go_irem e0_52 (by decide) ?_
    have he : (c6 % 4).toInt = 0 ∨ (c6 % 4).toInt = 1 ∨ (c6 % 4).toInt = 2 ∨ (c6 % 4).toInt = 3 := by
      have h1 := (c_irem c6 4 4 (by decide)).1 hc0
      omega
    rcases he with e | e | e | e
    · refine go_staticV_3 e0_53 (wd 2 rfl) (wd 3 rfl) (wd 5 rfl) (wd 4 rfl) hy_1 pd_9 rfl (c_swap hw (i := 3) (j := 0) rfl (by decide) e rfl rfl) rfl 0 rfl (by decide) (by decide) (by decide) (by decide) ?_
      rintro _ rfl
      try simp only [List.replicate_succ, List.replicate_zero, List.set_cons_zero, List.set_cons_succ, List.length_nil, List.length_cons, Nat.zero_add, Nat.reduceAdd, List.nil_append, List.cons_append]
      exact J1 4 2 3 1 (by decide)
    · refine go_staticV_3 e0_53 (wd 2 rfl) (wd 3 rfl) (wd 5 rfl) (wd 4 rfl) hy_1 pd_9 rfl (c_swap hw (i := 3) (j := 1) rfl (by decide) e rfl rfl) rfl 0 rfl (by decide) (by decide) (by decide) (by decide) ?_
      rintro _ rfl
      try simp only [List.replicate_succ, List.replicate_zero, List.set_cons_zero, List.set_cons_succ, List.length_nil, List.length_cons, Nat.zero_add, Nat.reduceAdd, List.nil_append, List.cons_append]
      exact J1 1 4 3 2 (by decide)
    · refine go_staticV_3 e0_53 (wd 2 rfl) (wd 3 rfl) (wd 5 rfl) (wd 4 rfl) hy_1 pd_9 rfl (c_swap hw (i := 3) (j := 2) rfl (by decide) e rfl rfl) rfl 0 rfl (by decide) (by decide) (by decide) (by decide) ?_
      rintro _ rfl
      try simp only [List.replicate_succ, List.replicate_zero, List.set_cons_zero, List.set_cons_succ, List.length_nil, List.length_cons, Nat.zero_add, Nat.reduceAdd, List.nil_append, List.cons_append]
      exact J1 1 2 4 3 (by decide)
    · refine go_staticV_3 e0_53 (wd 2 rfl) (wd 3 rfl) (wd 5 rfl) (wd 4 rfl) hy_1 pd_9 rfl (c_swap hw (i := 3) (j := 3) rfl (by decide) e rfl rfl) rfl 0 rfl (by decide) (by decide) (by decide) (by decide) ?_
      rintro _ rfl
      try simp only [List.replicate_succ, List.replicate_zero, List.set_cons_zero, List.set_cons_succ, List.length_nil, List.length_cons, Nat.zero_add, Nat.reduceAdd, List.nil_append, List.cons_append]
      exact J1 1 2 3 4 (by decide)
  · obtain rfl : mm = 4 := hmm.trans (by decide)
    have J5 : ∀ (w1 w2 w3 w4 : Int32) (ps rs : List Value) (k9 v10 : Int32) (n1 : ¬ w1 = 0) (n2 : ¬ w2 = 0) (n3 : ¬ w3 = 0) (n4 : ¬ w4 = 0) (hlt : w1.toInt < w4.toInt), Go C 259 [.val (.int i0), .val (.int i1), .val (.int i2), .val (.int i3), .val (.int 5), .val (.int 4), .val (.int c6), .val (.ref 0), .val (.ref 1), .val (.int k9), .val (.int v10), .val (.ref 2), .unset, .unset, .unset, .unset, .unset, .unset] [] [ar .int ps, ar .int rs, ar .int [.int 0, .int w1, .int w2, .int w3, .int w4]] 3 13 := by
      intro w1 w2 w3 w4 ps rs k9 v10 n1 n2 n3 n4 hlt
      refine go_iloadN e0_259 rfl ?_
      refine go_ldc e0_260 (wd 0 rfl) ?_
      refine go_iand e0_262 ?_
      refine go_iload e0_263 rfl ?_
      refine go_irem e0_265 (by decide) ?_
      refine go_istoreX_12 e0_266 rfl ?_
      intro sx hsx
      have hcs : sx = 0 ∨ sx = 1 ∨ sx = 2 ∨ sx = 3 ∨ sx = 4 := by
        have e2 := (c_irem (i2 &&& 2147483647) 5 5 (by decide)).1 (c_and _ _ (by decide)).1
        have e3 : sx.toInt = 0 ∨ sx.toInt = 1 ∨ sx.toInt = 2 ∨ sx.toInt = 3 ∨ sx.toInt = 4 := by rw [hsx]; omega
        rcases e3 with e | e | e | e | e
        · exact Or.inl (Int32.toInt_inj.mp e)
        · exact Or.inr (Or.inl (Int32.toInt_inj.mp e))
        · exact Or.inr (Or.inr (Or.inl (Int32.toInt_inj.mp e)))
        · exact Or.inr (Or.inr (Or.inr (Or.inl (Int32.toInt_inj.mp e))))
        · exact Or.inr (Or.inr (Or.inr (Or.inr (Int32.toInt_inj.mp e))))
      clear hsx
      rcases hcs with rfl | rfl | rfl | rfl | rfl
      · refine go_iloadN e0_268 rfl ?_
        refine go_iconst e0_269 (x := 1) rfl ?_
        refine go_iand e0_270 ?_
        refine go_ifeq e0_271 (tg := 278) (by decide) ?_ ?_
        · intro c271
          refine go_iconst e0_278 (x := 0) rfl ?_
          refine go_istore_13 e0_279 rfl ?_
          refine go_iload e0_281 rfl ?_
          refine go_newarray e0_283 (wd 1 rfl) (k := 5) rfl (vs := [.int 0, .int 0, .int 0, .int 0, .int 0]) rfl (cap := 5) (by decide) (by decide) (by decide) (by decide) ?_
          simp only [List.replicate_succ, List.replicate_zero, List.set_cons_zero, List.set_cons_succ, List.length_nil, List.length_cons, Nat.zero_add, Nat.reduceAdd, List.nil_append, List.cons_append]
          refine go_astore_14 e0_285 rfl rfl ?_
          refine go_aload e0_287 rfl rfl ?_
          refine go_aload e0_289 rfl rfl ?_
          refine go_iload e0_291 rfl ?_
          refine go_iload e0_293 rfl ?_
          refine go_iload e0_295 rfl ?_
          refine go_iconst e0_297 (x := 0) rfl ?_
          refine go_staticV_6 e0_298 (wd 9 rfl) (wd 10 rfl) (wd 11 rfl) (wd 4 rfl) hy_1 pd_4 rfl (c_place1 hw (n := 5) (s1 := 0) (i := 0) (K := 0) rfl rfl (by decide) (by decide) (by decide) (by decide) (by decide) (by decide) (by decide) rfl (Nat.le_of_ble_eq_true rfl)) rfl 0 rfl (by decide) (by decide) (by decide) (by decide) ?_
          rintro _ rfl
          try simp only [List.replicate_succ, List.replicate_zero, List.set_cons_zero, List.set_cons_succ, List.length_nil, List.length_cons, Nat.zero_add, Nat.reduceAdd, List.nil_append, List.cons_append]
          refine go_aload e0_301 rfl rfl ?_
          refine go_aload e0_303 rfl rfl ?_
          refine go_iload e0_305 rfl ?_
          refine go_iload e0_307 rfl ?_
          refine go_iload e0_309 rfl ?_
          refine go_iconst e0_311 (x := 1) rfl ?_
          refine go_staticV_6 e0_312 (wd 9 rfl) (wd 10 rfl) (wd 11 rfl) (wd 4 rfl) hy_1 pd_4 rfl (c_place1 hw (n := 5) (s1 := 0) (i := 1) (K := 4) rfl rfl (by decide) (by decide) (by decide) (by decide) (by decide) (by decide) (by decide) rfl (Nat.le_of_ble_eq_true rfl)) rfl 0 rfl (by decide) (by decide) (by decide) (by decide) ?_
          rintro _ rfl
          try simp only [List.replicate_succ, List.replicate_zero, List.set_cons_zero, List.set_cons_succ, List.length_nil, List.length_cons, Nat.zero_add, Nat.reduceAdd, List.nil_append, List.cons_append]
          refine go_aload e0_315 rfl rfl ?_
          refine go_aload e0_317 rfl rfl ?_
          refine go_iload e0_319 rfl ?_
          refine go_iload e0_321 rfl ?_
          refine go_iload e0_323 rfl ?_
          refine go_iconst e0_325 (x := 2) rfl ?_
          refine go_staticV_6 e0_326 (wd 9 rfl) (wd 10 rfl) (wd 11 rfl) (wd 4 rfl) hy_1 pd_4 rfl (c_place1 hw (n := 5) (s1 := 0) (i := 2) (K := 3) rfl rfl (by decide) (by decide) (by decide) (by decide) (by decide) (by decide) (by decide) rfl (Nat.le_of_ble_eq_true rfl)) rfl 0 rfl (by decide) (by decide) (by decide) (by decide) ?_
          rintro _ rfl
          try simp only [List.replicate_succ, List.replicate_zero, List.set_cons_zero, List.set_cons_succ, List.length_nil, List.length_cons, Nat.zero_add, Nat.reduceAdd, List.nil_append, List.cons_append]
          refine go_aload e0_329 rfl rfl ?_
          refine go_aload e0_331 rfl rfl ?_
          refine go_iload e0_333 rfl ?_
          refine go_iload e0_335 rfl ?_
          refine go_iload e0_337 rfl ?_
          refine go_iconst e0_339 (x := 3) rfl ?_
          refine go_staticV_6 e0_340 (wd 9 rfl) (wd 10 rfl) (wd 11 rfl) (wd 4 rfl) hy_1 pd_4 rfl (c_place1 hw (n := 5) (s1 := 0) (i := 3) (K := 2) rfl rfl (by decide) (by decide) (by decide) (by decide) (by decide) (by decide) (by decide) rfl (Nat.le_of_ble_eq_true rfl)) rfl 0 rfl (by decide) (by decide) (by decide) (by decide) ?_
          rintro _ rfl
          try simp only [List.replicate_succ, List.replicate_zero, List.set_cons_zero, List.set_cons_succ, List.length_nil, List.length_cons, Nat.zero_add, Nat.reduceAdd, List.nil_append, List.cons_append]
          refine go_aload e0_343 rfl rfl ?_
          refine go_aload e0_345 rfl rfl ?_
          refine go_iload e0_347 rfl ?_
          refine go_iload e0_349 rfl ?_
          refine go_iload e0_351 rfl ?_
          refine go_iconst e0_353 (x := 4) rfl ?_
          refine go_staticV_6 e0_354 (wd 9 rfl) (wd 10 rfl) (wd 11 rfl) (wd 4 rfl) hy_1 pd_4 rfl (c_place1 hw (n := 5) (s1 := 0) (i := 4) (K := 1) rfl rfl (by decide) (by decide) (by decide) (by decide) (by decide) (by decide) (by decide) rfl (Nat.le_of_ble_eq_true rfl)) rfl 0 rfl (by decide) (by decide) (by decide) (by decide) ?_
          rintro _ rfl
          try simp only [List.replicate_succ, List.replicate_zero, List.set_cons_zero, List.set_cons_succ, List.length_nil, List.length_cons, Nat.zero_add, Nat.reduceAdd, List.nil_append, List.cons_append]
          refine go_aload e0_357 rfl rfl ?_
          refine go_static_1 e0_359 (wd 15 rfl) (wd 16 rfl) (wd 18 rfl) (wd 17 rfl) hy_5 pd_6 rfl (c_norm hw (n := 5) (st := 0) (nn := 5) (va := w4) (vb := w1) rfl rfl (by decide) (by decide) (by intro v hv; simp only [List.mem_cons, List.not_mem_nil, or_false] at hv; rcases hv with rfl | rfl | rfl | rfl | rfl <;> exact ⟨_, rfl⟩) (by decide) rfl (fun j hj => absurd hj (Nat.not_lt_zero _)) rfl rfl) rfl 0 rfl (by decide) (by decide) (by decide) (by decide) ?_
          rintro _ _ ⟨rfl, out, rfl, hol, hout⟩
          rw [if_neg (by omega)] at hout
          have o0 : out[0]? = some (.int 0) := hout 0 (by decide)
          have o1 : out[1]? = some (.int w1) := hout 1 (by decide)
          have o2 : out[2]? = some (.int w2) := hout 2 (by decide)
          have o3 : out[3]? = some (.int w3) := hout 3 (by decide)
          have o4 : out[4]? = some (.int w4) := hout 4 (by decide)
          try simp only [List.replicate_succ, List.replicate_zero, List.set_cons_zero, List.set_cons_succ, List.length_nil, List.length_cons, Nat.zero_add, Nat.reduceAdd, List.nil_append, List.cons_append]
          refine go_astore_15 e0_362 rfl rfl ?_
          refine go_aload e0_364 rfl rfl ?_
          refine go_aload e0_366 rfl rfl ?_
          refine go_acmp e0_368 rfl rfl (same := false) (by decide) (tg := 379) (by decide) ?_
          show Go C 371 _ _ _ _ _
          refine go_aload e0_371 rfl rfl ?_
          refine go_len e0_373 rfl (n := 5) (by rw [hol]; decide) ?_
          refine go_iload e0_374 rfl ?_
          refine go_iceqY e0_376 (tg := 381) (by decide) rfl ?_
          refine go_aload e0_381 rfl rfl ?_
          refine go_aload e0_383 rfl rfl ?_
          refine go_iload e0_385 rfl ?_
          refine go_iconst e0_387 (x := 0) rfl ?_
          refine go_iconst e0_388 (x := 1) rfl ?_
          refine go_iconst e0_389 (x := 0) rfl ?_
          refine go_static_6 e0_390 (wd 19 rfl) (wd 20 rfl) (wd 21 rfl) (wd 4 rfl) hy_1 pd_7 rfl (c_same1 hw (n := 5) (s1 := 0) (i := 0) (K := 0) rfl rfl (by decide) (by decide) (by decide) (by decide) (by decide) (by decide) (by decide) rfl o0) rfl 0 rfl (by decide) (by decide) (by decide) (by decide) ?_
          rintro _ _ ⟨rfl, rfl⟩
          try simp only [List.replicate_succ, List.replicate_zero, List.set_cons_zero, List.set_cons_succ, List.length_nil, List.length_cons, Nat.zero_add, Nat.reduceAdd, List.nil_append, List.cons_append]
          refine go_ifeqN e0_393 (tg := 460) (by decide) (by decide) ?_
          refine go_aload e0_396 rfl rfl ?_
          refine go_aload e0_398 rfl rfl ?_
          refine go_iload e0_400 rfl ?_
          refine go_iconst e0_402 (x := 0) rfl ?_
          refine go_iconst e0_403 (x := 1) rfl ?_
          refine go_iconst e0_404 (x := 1) rfl ?_
          refine go_static_6 e0_405 (wd 19 rfl) (wd 20 rfl) (wd 21 rfl) (wd 4 rfl) hy_1 pd_7 rfl (c_same1 hw (n := 5) (s1 := 0) (i := 1) (K := 1) rfl rfl (by decide) (by decide) (by decide) (by decide) (by decide) (by decide) (by decide) rfl o1) rfl 0 rfl (by decide) (by decide) (by decide) (by decide) ?_
          rintro _ _ ⟨rfl, rfl⟩
          try simp only [List.replicate_succ, List.replicate_zero, List.set_cons_zero, List.set_cons_succ, List.length_nil, List.length_cons, Nat.zero_add, Nat.reduceAdd, List.nil_append, List.cons_append]
          refine go_ifeqN e0_408 (tg := 460) (by decide) (by decide) ?_
          refine go_aload e0_411 rfl rfl ?_
          refine go_aload e0_413 rfl rfl ?_
          refine go_iload e0_415 rfl ?_
          refine go_iconst e0_417 (x := 0) rfl ?_
          refine go_iconst e0_418 (x := 1) rfl ?_
          refine go_iconst e0_419 (x := 2) rfl ?_
          refine go_static_6 e0_420 (wd 19 rfl) (wd 20 rfl) (wd 21 rfl) (wd 4 rfl) hy_1 pd_7 rfl (c_same1 hw (n := 5) (s1 := 0) (i := 2) (K := 2) rfl rfl (by decide) (by decide) (by decide) (by decide) (by decide) (by decide) (by decide) rfl o2) rfl 0 rfl (by decide) (by decide) (by decide) (by decide) ?_
          rintro _ _ ⟨rfl, rfl⟩
          try simp only [List.replicate_succ, List.replicate_zero, List.set_cons_zero, List.set_cons_succ, List.length_nil, List.length_cons, Nat.zero_add, Nat.reduceAdd, List.nil_append, List.cons_append]
          refine go_ifeqN e0_423 (tg := 460) (by decide) (by decide) ?_
          refine go_aload e0_426 rfl rfl ?_
          refine go_aload e0_428 rfl rfl ?_
          refine go_iload e0_430 rfl ?_
          refine go_iconst e0_432 (x := 0) rfl ?_
          refine go_iconst e0_433 (x := 1) rfl ?_
          refine go_iconst e0_434 (x := 3) rfl ?_
          refine go_static_6 e0_435 (wd 19 rfl) (wd 20 rfl) (wd 21 rfl) (wd 4 rfl) hy_1 pd_7 rfl (c_same1 hw (n := 5) (s1 := 0) (i := 3) (K := 3) rfl rfl (by decide) (by decide) (by decide) (by decide) (by decide) (by decide) (by decide) rfl o3) rfl 0 rfl (by decide) (by decide) (by decide) (by decide) ?_
          rintro _ _ ⟨rfl, rfl⟩
          try simp only [List.replicate_succ, List.replicate_zero, List.set_cons_zero, List.set_cons_succ, List.length_nil, List.length_cons, Nat.zero_add, Nat.reduceAdd, List.nil_append, List.cons_append]
          refine go_ifeqN e0_438 (tg := 460) (by decide) (by decide) ?_
          refine go_aload e0_441 rfl rfl ?_
          refine go_aload e0_443 rfl rfl ?_
          refine go_iload e0_445 rfl ?_
          refine go_iconst e0_447 (x := 0) rfl ?_
          refine go_iconst e0_448 (x := 1) rfl ?_
          refine go_iconst e0_449 (x := 4) rfl ?_
          refine go_static_6 e0_450 (wd 19 rfl) (wd 20 rfl) (wd 21 rfl) (wd 4 rfl) hy_1 pd_7 rfl (c_same1 hw (n := 5) (s1 := 0) (i := 4) (K := 4) rfl rfl (by decide) (by decide) (by decide) (by decide) (by decide) (by decide) (by decide) rfl o4) rfl 0 rfl (by decide) (by decide) (by decide) (by decide) ?_
          rintro _ _ ⟨rfl, rfl⟩
          try simp only [List.replicate_succ, List.replicate_zero, List.set_cons_zero, List.set_cons_succ, List.length_nil, List.length_cons, Nat.zero_add, Nat.reduceAdd, List.nil_append, List.cons_append]
          refine go_ifeqN e0_453 (tg := 460) (by decide) (by decide) ?_
          refine go_iconst e0_456 (x := 1) rfl ?_
          refine go_goto e0_457 (tg := 461) (by decide) ?_
          refine go_istore_16 e0_461 rfl ?_
          refine go_aload e0_463 rfl rfl ?_
          refine go_aload e0_465 rfl rfl ?_
          refine go_iload e0_467 rfl ?_
          refine go_iload e0_469 rfl ?_
          refine go_iload e0_471 rfl ?_
          refine go_iconst e0_473 (x := 0) rfl ?_
          refine go_static_6 e0_474 (wd 19 rfl) (wd 20 rfl) (wd 21 rfl) (wd 4 rfl) hy_1 pd_7 rfl (c_same1 hw (n := 5) (s1 := 0) (i := 0) (K := 0) rfl rfl (by decide) (by decide) (by decide) (by decide) (by decide) (by decide) (by decide) rfl rfl) rfl 0 rfl (by decide) (by decide) (by decide) (by decide) ?_
          rintro _ _ ⟨rfl, rfl⟩
          try simp only [List.replicate_succ, List.replicate_zero, List.set_cons_zero, List.set_cons_succ, List.length_nil, List.length_cons, Nat.zero_add, Nat.reduceAdd, List.nil_append, List.cons_append]
          refine go_ifeqN e0_477 (tg := 552) (by decide) (by decide) ?_
          refine go_aload e0_480 rfl rfl ?_
          refine go_aload e0_482 rfl rfl ?_
          refine go_iload e0_484 rfl ?_
          refine go_iload e0_486 rfl ?_
          refine go_iload e0_488 rfl ?_
          refine go_iconst e0_490 (x := 1) rfl ?_
          refine go_static_6 e0_491 (wd 19 rfl) (wd 20 rfl) (wd 21 rfl) (wd 4 rfl) hy_1 pd_7 rfl (c_same1 hw (n := 5) (s1 := 0) (i := 1) (K := 4) rfl rfl (by decide) (by decide) (by decide) (by decide) (by decide) (by decide) (by decide) rfl rfl) rfl 0 rfl (by decide) (by decide) (by decide) (by decide) ?_
          rintro _ _ ⟨rfl, rfl⟩
          try simp only [List.replicate_succ, List.replicate_zero, List.set_cons_zero, List.set_cons_succ, List.length_nil, List.length_cons, Nat.zero_add, Nat.reduceAdd, List.nil_append, List.cons_append]
          refine go_ifeqN e0_494 (tg := 552) (by decide) (by decide) ?_
          refine go_aload e0_497 rfl rfl ?_
          refine go_aload e0_499 rfl rfl ?_
          refine go_iload e0_501 rfl ?_
          refine go_iload e0_503 rfl ?_
          refine go_iload e0_505 rfl ?_
          refine go_iconst e0_507 (x := 2) rfl ?_
          refine go_static_6 e0_508 (wd 19 rfl) (wd 20 rfl) (wd 21 rfl) (wd 4 rfl) hy_1 pd_7 rfl (c_same1 hw (n := 5) (s1 := 0) (i := 2) (K := 3) rfl rfl (by decide) (by decide) (by decide) (by decide) (by decide) (by decide) (by decide) rfl rfl) rfl 0 rfl (by decide) (by decide) (by decide) (by decide) ?_
          rintro _ _ ⟨rfl, rfl⟩
          try simp only [List.replicate_succ, List.replicate_zero, List.set_cons_zero, List.set_cons_succ, List.length_nil, List.length_cons, Nat.zero_add, Nat.reduceAdd, List.nil_append, List.cons_append]
          refine go_ifeqN e0_511 (tg := 552) (by decide) (by decide) ?_
          refine go_aload e0_514 rfl rfl ?_
          refine go_aload e0_516 rfl rfl ?_
          refine go_iload e0_518 rfl ?_
          refine go_iload e0_520 rfl ?_
          refine go_iload e0_522 rfl ?_
          refine go_iconst e0_524 (x := 3) rfl ?_
          refine go_static_6 e0_525 (wd 19 rfl) (wd 20 rfl) (wd 21 rfl) (wd 4 rfl) hy_1 pd_7 rfl (c_same1 hw (n := 5) (s1 := 0) (i := 3) (K := 2) rfl rfl (by decide) (by decide) (by decide) (by decide) (by decide) (by decide) (by decide) rfl rfl) rfl 0 rfl (by decide) (by decide) (by decide) (by decide) ?_
          rintro _ _ ⟨rfl, rfl⟩
          try simp only [List.replicate_succ, List.replicate_zero, List.set_cons_zero, List.set_cons_succ, List.length_nil, List.length_cons, Nat.zero_add, Nat.reduceAdd, List.nil_append, List.cons_append]
          refine go_ifeqN e0_528 (tg := 552) (by decide) (by decide) ?_
          refine go_aload e0_531 rfl rfl ?_
          refine go_aload e0_533 rfl rfl ?_
          refine go_iload e0_535 rfl ?_
          refine go_iload e0_537 rfl ?_
          refine go_iload e0_539 rfl ?_
          refine go_iconst e0_541 (x := 4) rfl ?_
          refine go_static_6 e0_542 (wd 19 rfl) (wd 20 rfl) (wd 21 rfl) (wd 4 rfl) hy_1 pd_7 rfl (c_same1 hw (n := 5) (s1 := 0) (i := 4) (K := 1) rfl rfl (by decide) (by decide) (by decide) (by decide) (by decide) (by decide) (by decide) rfl rfl) rfl 0 rfl (by decide) (by decide) (by decide) (by decide) ?_
          rintro _ _ ⟨rfl, rfl⟩
          try simp only [List.replicate_succ, List.replicate_zero, List.set_cons_zero, List.set_cons_succ, List.length_nil, List.length_cons, Nat.zero_add, Nat.reduceAdd, List.nil_append, List.cons_append]
          refine go_ifeqN e0_545 (tg := 552) (by decide) (by decide) ?_
          refine go_iconst e0_548 (x := 1) rfl ?_
          refine go_goto e0_549 (tg := 553) (by decide) ?_
          refine go_istore_17 e0_553 rfl ?_
          refine go_iload e0_555 rfl ?_
          refine go_ifeqN e0_557 (tg := 569) (by decide) (by decide) ?_
          refine go_iload e0_560 rfl ?_
          refine go_ifeqN e0_562 (tg := 569) (by decide) (by decide) ?_
          refine go_iconst e0_565 (x := 1) rfl ?_
          refine go_goto e0_566 (tg := 570) (by decide) ?_
          refine go_zreturn e0_570 rfl (by decide) (by decide) (by decide) ?_
          exact rfl
        · intro c271
          refine go_iconst e0_274 (x := 1) rfl ?_
          refine go_goto e0_275 (tg := 279) (by decide) ?_
          refine go_istore_13 e0_279 rfl ?_
          refine go_iload e0_281 rfl ?_
          refine go_newarray e0_283 (wd 1 rfl) (k := 5) rfl (vs := [.int 0, .int 0, .int 0, .int 0, .int 0]) rfl (cap := 5) (by decide) (by decide) (by decide) (by decide) ?_
          simp only [List.replicate_succ, List.replicate_zero, List.set_cons_zero, List.set_cons_succ, List.length_nil, List.length_cons, Nat.zero_add, Nat.reduceAdd, List.nil_append, List.cons_append]
          refine go_astore_14 e0_285 rfl rfl ?_
          refine go_aload e0_287 rfl rfl ?_
          refine go_aload e0_289 rfl rfl ?_
          refine go_iload e0_291 rfl ?_
          refine go_iload e0_293 rfl ?_
          refine go_iload e0_295 rfl ?_
          refine go_iconst e0_297 (x := 0) rfl ?_
          refine go_staticV_6 e0_298 (wd 9 rfl) (wd 10 rfl) (wd 11 rfl) (wd 4 rfl) hy_1 pd_4 rfl (c_place1 hw (n := 5) (s1 := 0) (i := 0) (K := 0) rfl rfl (by decide) (by decide) (by decide) (by decide) (by decide) (by decide) (by decide) rfl (Nat.le_of_ble_eq_true rfl)) rfl 0 rfl (by decide) (by decide) (by decide) (by decide) ?_
          rintro _ rfl
          try simp only [List.replicate_succ, List.replicate_zero, List.set_cons_zero, List.set_cons_succ, List.length_nil, List.length_cons, Nat.zero_add, Nat.reduceAdd, List.nil_append, List.cons_append]
          refine go_aload e0_301 rfl rfl ?_
          refine go_aload e0_303 rfl rfl ?_
          refine go_iload e0_305 rfl ?_
          refine go_iload e0_307 rfl ?_
          refine go_iload e0_309 rfl ?_
          refine go_iconst e0_311 (x := 1) rfl ?_
          refine go_staticV_6 e0_312 (wd 9 rfl) (wd 10 rfl) (wd 11 rfl) (wd 4 rfl) hy_1 pd_4 rfl (c_place1 hw (n := 5) (s1 := 0) (i := 1) (K := 1) rfl rfl (by decide) (by decide) (by decide) (by decide) (by decide) (by decide) (by decide) rfl (Nat.le_of_ble_eq_true rfl)) rfl 0 rfl (by decide) (by decide) (by decide) (by decide) ?_
          rintro _ rfl
          try simp only [List.replicate_succ, List.replicate_zero, List.set_cons_zero, List.set_cons_succ, List.length_nil, List.length_cons, Nat.zero_add, Nat.reduceAdd, List.nil_append, List.cons_append]
          refine go_aload e0_315 rfl rfl ?_
          refine go_aload e0_317 rfl rfl ?_
          refine go_iload e0_319 rfl ?_
          refine go_iload e0_321 rfl ?_
          refine go_iload e0_323 rfl ?_
          refine go_iconst e0_325 (x := 2) rfl ?_
          refine go_staticV_6 e0_326 (wd 9 rfl) (wd 10 rfl) (wd 11 rfl) (wd 4 rfl) hy_1 pd_4 rfl (c_place1 hw (n := 5) (s1 := 0) (i := 2) (K := 2) rfl rfl (by decide) (by decide) (by decide) (by decide) (by decide) (by decide) (by decide) rfl (Nat.le_of_ble_eq_true rfl)) rfl 0 rfl (by decide) (by decide) (by decide) (by decide) ?_
          rintro _ rfl
          try simp only [List.replicate_succ, List.replicate_zero, List.set_cons_zero, List.set_cons_succ, List.length_nil, List.length_cons, Nat.zero_add, Nat.reduceAdd, List.nil_append, List.cons_append]
          refine go_aload e0_329 rfl rfl ?_
          refine go_aload e0_331 rfl rfl ?_
          refine go_iload e0_333 rfl ?_
          refine go_iload e0_335 rfl ?_
          refine go_iload e0_337 rfl ?_
          refine go_iconst e0_339 (x := 3) rfl ?_
          refine go_staticV_6 e0_340 (wd 9 rfl) (wd 10 rfl) (wd 11 rfl) (wd 4 rfl) hy_1 pd_4 rfl (c_place1 hw (n := 5) (s1 := 0) (i := 3) (K := 3) rfl rfl (by decide) (by decide) (by decide) (by decide) (by decide) (by decide) (by decide) rfl (Nat.le_of_ble_eq_true rfl)) rfl 0 rfl (by decide) (by decide) (by decide) (by decide) ?_
          rintro _ rfl
          try simp only [List.replicate_succ, List.replicate_zero, List.set_cons_zero, List.set_cons_succ, List.length_nil, List.length_cons, Nat.zero_add, Nat.reduceAdd, List.nil_append, List.cons_append]
          refine go_aload e0_343 rfl rfl ?_
          refine go_aload e0_345 rfl rfl ?_
          refine go_iload e0_347 rfl ?_
          refine go_iload e0_349 rfl ?_
          refine go_iload e0_351 rfl ?_
          refine go_iconst e0_353 (x := 4) rfl ?_
          refine go_staticV_6 e0_354 (wd 9 rfl) (wd 10 rfl) (wd 11 rfl) (wd 4 rfl) hy_1 pd_4 rfl (c_place1 hw (n := 5) (s1 := 0) (i := 4) (K := 4) rfl rfl (by decide) (by decide) (by decide) (by decide) (by decide) (by decide) (by decide) rfl (Nat.le_of_ble_eq_true rfl)) rfl 0 rfl (by decide) (by decide) (by decide) (by decide) ?_
          rintro _ rfl
          try simp only [List.replicate_succ, List.replicate_zero, List.set_cons_zero, List.set_cons_succ, List.length_nil, List.length_cons, Nat.zero_add, Nat.reduceAdd, List.nil_append, List.cons_append]
          refine go_aload e0_357 rfl rfl ?_
          refine go_static_1 e0_359 (wd 15 rfl) (wd 16 rfl) (wd 18 rfl) (wd 17 rfl) hy_5 pd_6 rfl (c_norm hw (n := 5) (st := 0) (nn := 5) (va := w1) (vb := w4) rfl rfl (by decide) (by decide) (by intro v hv; simp only [List.mem_cons, List.not_mem_nil, or_false] at hv; rcases hv with rfl | rfl | rfl | rfl | rfl <;> exact ⟨_, rfl⟩) (by decide) rfl (fun j hj => absurd hj (Nat.not_lt_zero _)) rfl rfl) rfl 0 rfl (by decide) (by decide) (by decide) (by decide) ?_
          rintro _ _ ⟨rfl, out, rfl, hol, hout⟩
          rw [if_pos (by omega)] at hout
          have o0 : out[0]? = some (.int 0) := hout 0 (by decide)
          have o1 : out[1]? = some (.int w1) := hout 1 (by decide)
          have o2 : out[2]? = some (.int w2) := hout 2 (by decide)
          have o3 : out[3]? = some (.int w3) := hout 3 (by decide)
          have o4 : out[4]? = some (.int w4) := hout 4 (by decide)
          try simp only [List.replicate_succ, List.replicate_zero, List.set_cons_zero, List.set_cons_succ, List.length_nil, List.length_cons, Nat.zero_add, Nat.reduceAdd, List.nil_append, List.cons_append]
          refine go_astore_15 e0_362 rfl rfl ?_
          refine go_aload e0_364 rfl rfl ?_
          refine go_aload e0_366 rfl rfl ?_
          refine go_acmp e0_368 rfl rfl (same := false) (by decide) (tg := 379) (by decide) ?_
          show Go C 371 _ _ _ _ _
          refine go_aload e0_371 rfl rfl ?_
          refine go_len e0_373 rfl (n := 5) (by rw [hol]; decide) ?_
          refine go_iload e0_374 rfl ?_
          refine go_iceqY e0_376 (tg := 381) (by decide) rfl ?_
          refine go_aload e0_381 rfl rfl ?_
          refine go_aload e0_383 rfl rfl ?_
          refine go_iload e0_385 rfl ?_
          refine go_iconst e0_387 (x := 0) rfl ?_
          refine go_iconst e0_388 (x := 1) rfl ?_
          refine go_iconst e0_389 (x := 0) rfl ?_
          refine go_static_6 e0_390 (wd 19 rfl) (wd 20 rfl) (wd 21 rfl) (wd 4 rfl) hy_1 pd_7 rfl (c_same1 hw (n := 5) (s1 := 0) (i := 0) (K := 0) rfl rfl (by decide) (by decide) (by decide) (by decide) (by decide) (by decide) (by decide) rfl o0) rfl 0 rfl (by decide) (by decide) (by decide) (by decide) ?_
          rintro _ _ ⟨rfl, rfl⟩
          try simp only [List.replicate_succ, List.replicate_zero, List.set_cons_zero, List.set_cons_succ, List.length_nil, List.length_cons, Nat.zero_add, Nat.reduceAdd, List.nil_append, List.cons_append]
          refine go_ifeqN e0_393 (tg := 460) (by decide) (by decide) ?_
          refine go_aload e0_396 rfl rfl ?_
          refine go_aload e0_398 rfl rfl ?_
          refine go_iload e0_400 rfl ?_
          refine go_iconst e0_402 (x := 0) rfl ?_
          refine go_iconst e0_403 (x := 1) rfl ?_
          refine go_iconst e0_404 (x := 1) rfl ?_
          refine go_static_6 e0_405 (wd 19 rfl) (wd 20 rfl) (wd 21 rfl) (wd 4 rfl) hy_1 pd_7 rfl (c_same1 hw (n := 5) (s1 := 0) (i := 1) (K := 1) rfl rfl (by decide) (by decide) (by decide) (by decide) (by decide) (by decide) (by decide) rfl o1) rfl 0 rfl (by decide) (by decide) (by decide) (by decide) ?_
          rintro _ _ ⟨rfl, rfl⟩
          try simp only [List.replicate_succ, List.replicate_zero, List.set_cons_zero, List.set_cons_succ, List.length_nil, List.length_cons, Nat.zero_add, Nat.reduceAdd, List.nil_append, List.cons_append]
          refine go_ifeqN e0_408 (tg := 460) (by decide) (by decide) ?_
          refine go_aload e0_411 rfl rfl ?_
          refine go_aload e0_413 rfl rfl ?_
          refine go_iload e0_415 rfl ?_
          refine go_iconst e0_417 (x := 0) rfl ?_
          refine go_iconst e0_418 (x := 1) rfl ?_
          refine go_iconst e0_419 (x := 2) rfl ?_
          refine go_static_6 e0_420 (wd 19 rfl) (wd 20 rfl) (wd 21 rfl) (wd 4 rfl) hy_1 pd_7 rfl (c_same1 hw (n := 5) (s1 := 0) (i := 2) (K := 2) rfl rfl (by decide) (by decide) (by decide) (by decide) (by decide) (by decide) (by decide) rfl o2) rfl 0 rfl (by decide) (by decide) (by decide) (by decide) ?_
          rintro _ _ ⟨rfl, rfl⟩
          try simp only [List.replicate_succ, List.replicate_zero, List.set_cons_zero, List.set_cons_succ, List.length_nil, List.length_cons, Nat.zero_add, Nat.reduceAdd, List.nil_append, List.cons_append]
          refine go_ifeqN e0_423 (tg := 460) (by decide) (by decide) ?_
          refine go_aload e0_426 rfl rfl ?_
          refine go_aload e0_428 rfl rfl ?_
          refine go_iload e0_430 rfl ?_
          refine go_iconst e0_432 (x := 0) rfl ?_
          refine go_iconst e0_433 (x := 1) rfl ?_
          refine go_iconst e0_434 (x := 3) rfl ?_
          refine go_static_6 e0_435 (wd 19 rfl) (wd 20 rfl) (wd 21 rfl) (wd 4 rfl) hy_1 pd_7 rfl (c_same1 hw (n := 5) (s1 := 0) (i := 3) (K := 3) rfl rfl (by decide) (by decide) (by decide) (by decide) (by decide) (by decide) (by decide) rfl o3) rfl 0 rfl (by decide) (by decide) (by decide) (by decide) ?_
          rintro _ _ ⟨rfl, rfl⟩
          try simp only [List.replicate_succ, List.replicate_zero, List.set_cons_zero, List.set_cons_succ, List.length_nil, List.length_cons, Nat.zero_add, Nat.reduceAdd, List.nil_append, List.cons_append]
          refine go_ifeqN e0_438 (tg := 460) (by decide) (by decide) ?_
          refine go_aload e0_441 rfl rfl ?_
          refine go_aload e0_443 rfl rfl ?_
          refine go_iload e0_445 rfl ?_
          refine go_iconst e0_447 (x := 0) rfl ?_
          refine go_iconst e0_448 (x := 1) rfl ?_
          refine go_iconst e0_449 (x := 4) rfl ?_
          refine go_static_6 e0_450 (wd 19 rfl) (wd 20 rfl) (wd 21 rfl) (wd 4 rfl) hy_1 pd_7 rfl (c_same1 hw (n := 5) (s1 := 0) (i := 4) (K := 4) rfl rfl (by decide) (by decide) (by decide) (by decide) (by decide) (by decide) (by decide) rfl o4) rfl 0 rfl (by decide) (by decide) (by decide) (by decide) ?_
          rintro _ _ ⟨rfl, rfl⟩
          try simp only [List.replicate_succ, List.replicate_zero, List.set_cons_zero, List.set_cons_succ, List.length_nil, List.length_cons, Nat.zero_add, Nat.reduceAdd, List.nil_append, List.cons_append]
          refine go_ifeqN e0_453 (tg := 460) (by decide) (by decide) ?_
          refine go_iconst e0_456 (x := 1) rfl ?_
          refine go_goto e0_457 (tg := 461) (by decide) ?_
          refine go_istore_16 e0_461 rfl ?_
          refine go_aload e0_463 rfl rfl ?_
          refine go_aload e0_465 rfl rfl ?_
          refine go_iload e0_467 rfl ?_
          refine go_iload e0_469 rfl ?_
          refine go_iload e0_471 rfl ?_
          refine go_iconst e0_473 (x := 0) rfl ?_
          refine go_static_6 e0_474 (wd 19 rfl) (wd 20 rfl) (wd 21 rfl) (wd 4 rfl) hy_1 pd_7 rfl (c_same1 hw (n := 5) (s1 := 0) (i := 0) (K := 0) rfl rfl (by decide) (by decide) (by decide) (by decide) (by decide) (by decide) (by decide) rfl rfl) rfl 0 rfl (by decide) (by decide) (by decide) (by decide) ?_
          rintro _ _ ⟨rfl, rfl⟩
          try simp only [List.replicate_succ, List.replicate_zero, List.set_cons_zero, List.set_cons_succ, List.length_nil, List.length_cons, Nat.zero_add, Nat.reduceAdd, List.nil_append, List.cons_append]
          refine go_ifeqN e0_477 (tg := 552) (by decide) (by decide) ?_
          refine go_aload e0_480 rfl rfl ?_
          refine go_aload e0_482 rfl rfl ?_
          refine go_iload e0_484 rfl ?_
          refine go_iload e0_486 rfl ?_
          refine go_iload e0_488 rfl ?_
          refine go_iconst e0_490 (x := 1) rfl ?_
          refine go_static_6 e0_491 (wd 19 rfl) (wd 20 rfl) (wd 21 rfl) (wd 4 rfl) hy_1 pd_7 rfl (c_same1 hw (n := 5) (s1 := 0) (i := 1) (K := 1) rfl rfl (by decide) (by decide) (by decide) (by decide) (by decide) (by decide) (by decide) rfl rfl) rfl 0 rfl (by decide) (by decide) (by decide) (by decide) ?_
          rintro _ _ ⟨rfl, rfl⟩
          try simp only [List.replicate_succ, List.replicate_zero, List.set_cons_zero, List.set_cons_succ, List.length_nil, List.length_cons, Nat.zero_add, Nat.reduceAdd, List.nil_append, List.cons_append]
          refine go_ifeqN e0_494 (tg := 552) (by decide) (by decide) ?_
          refine go_aload e0_497 rfl rfl ?_
          refine go_aload e0_499 rfl rfl ?_
          refine go_iload e0_501 rfl ?_
          refine go_iload e0_503 rfl ?_
          refine go_iload e0_505 rfl ?_
          refine go_iconst e0_507 (x := 2) rfl ?_
          refine go_static_6 e0_508 (wd 19 rfl) (wd 20 rfl) (wd 21 rfl) (wd 4 rfl) hy_1 pd_7 rfl (c_same1 hw (n := 5) (s1 := 0) (i := 2) (K := 2) rfl rfl (by decide) (by decide) (by decide) (by decide) (by decide) (by decide) (by decide) rfl rfl) rfl 0 rfl (by decide) (by decide) (by decide) (by decide) ?_
          rintro _ _ ⟨rfl, rfl⟩
          try simp only [List.replicate_succ, List.replicate_zero, List.set_cons_zero, List.set_cons_succ, List.length_nil, List.length_cons, Nat.zero_add, Nat.reduceAdd, List.nil_append, List.cons_append]
          refine go_ifeqN e0_511 (tg := 552) (by decide) (by decide) ?_
          refine go_aload e0_514 rfl rfl ?_
          refine go_aload e0_516 rfl rfl ?_
          refine go_iload e0_518 rfl ?_
          refine go_iload e0_520 rfl ?_
          refine go_iload e0_522 rfl ?_
          refine go_iconst e0_524 (x := 3) rfl ?_
          refine go_static_6 e0_525 (wd 19 rfl) (wd 20 rfl) (wd 21 rfl) (wd 4 rfl) hy_1 pd_7 rfl (c_same1 hw (n := 5) (s1 := 0) (i := 3) (K := 3) rfl rfl (by decide) (by decide) (by decide) (by decide) (by decide) (by decide) (by decide) rfl rfl) rfl 0 rfl (by decide) (by decide) (by decide) (by decide) ?_
          rintro _ _ ⟨rfl, rfl⟩
          try simp only [List.replicate_succ, List.replicate_zero, List.set_cons_zero, List.set_cons_succ, List.length_nil, List.length_cons, Nat.zero_add, Nat.reduceAdd, List.nil_append, List.cons_append]
          refine go_ifeqN e0_528 (tg := 552) (by decide) (by decide) ?_
          refine go_aload e0_531 rfl rfl ?_
          refine go_aload e0_533 rfl rfl ?_
          refine go_iload e0_535 rfl ?_
          refine go_iload e0_537 rfl ?_
          refine go_iload e0_539 rfl ?_
          refine go_iconst e0_541 (x := 4) rfl ?_
          refine go_static_6 e0_542 (wd 19 rfl) (wd 20 rfl) (wd 21 rfl) (wd 4 rfl) hy_1 pd_7 rfl (c_same1 hw (n := 5) (s1 := 0) (i := 4) (K := 4) rfl rfl (by decide) (by decide) (by decide) (by decide) (by decide) (by decide) (by decide) rfl rfl) rfl 0 rfl (by decide) (by decide) (by decide) (by decide) ?_
          rintro _ _ ⟨rfl, rfl⟩
          try simp only [List.replicate_succ, List.replicate_zero, List.set_cons_zero, List.set_cons_succ, List.length_nil, List.length_cons, Nat.zero_add, Nat.reduceAdd, List.nil_append, List.cons_append]
          refine go_ifeqN e0_545 (tg := 552) (by decide) (by decide) ?_
          refine go_iconst e0_548 (x := 1) rfl ?_
          refine go_goto e0_549 (tg := 553) (by decide) ?_
          refine go_istore_17 e0_553 rfl ?_
          refine go_iload e0_555 rfl ?_
          refine go_ifeqN e0_557 (tg := 569) (by decide) (by decide) ?_
          refine go_iload e0_560 rfl ?_
          refine go_ifeqN e0_562 (tg := 569) (by decide) (by decide) ?_
          refine go_iconst e0_565 (x := 1) rfl ?_
          refine go_goto e0_566 (tg := 570) (by decide) ?_
          refine go_zreturn e0_570 rfl (by decide) (by decide) (by decide) ?_
          exact rfl
      · refine go_iloadN e0_268 rfl ?_
        refine go_iconst e0_269 (x := 1) rfl ?_
        refine go_iand e0_270 ?_
        refine go_ifeq e0_271 (tg := 278) (by decide) ?_ ?_
        · intro c271
          refine go_iconst e0_278 (x := 0) rfl ?_
          refine go_istore_13 e0_279 rfl ?_
          refine go_iload e0_281 rfl ?_
          refine go_newarray e0_283 (wd 1 rfl) (k := 5) rfl (vs := [.int 0, .int 0, .int 0, .int 0, .int 0]) rfl (cap := 5) (by decide) (by decide) (by decide) (by decide) ?_
          simp only [List.replicate_succ, List.replicate_zero, List.set_cons_zero, List.set_cons_succ, List.length_nil, List.length_cons, Nat.zero_add, Nat.reduceAdd, List.nil_append, List.cons_append]
          refine go_astore_14 e0_285 rfl rfl ?_
          refine go_aload e0_287 rfl rfl ?_
          refine go_aload e0_289 rfl rfl ?_
          refine go_iload e0_291 rfl ?_
          refine go_iload e0_293 rfl ?_
          refine go_iload e0_295 rfl ?_
          refine go_iconst e0_297 (x := 0) rfl ?_
          refine go_staticV_6 e0_298 (wd 9 rfl) (wd 10 rfl) (wd 11 rfl) (wd 4 rfl) hy_1 pd_4 rfl (c_place1 hw (n := 5) (s1 := 1) (i := 0) (K := 1) rfl rfl (by decide) (by decide) (by decide) (by decide) (by decide) (by decide) (by decide) rfl (Nat.le_of_ble_eq_true rfl)) rfl 0 rfl (by decide) (by decide) (by decide) (by decide) ?_
          rintro _ rfl
          try simp only [List.replicate_succ, List.replicate_zero, List.set_cons_zero, List.set_cons_succ, List.length_nil, List.length_cons, Nat.zero_add, Nat.reduceAdd, List.nil_append, List.cons_append]
          refine go_aload e0_301 rfl rfl ?_
          refine go_aload e0_303 rfl rfl ?_
          refine go_iload e0_305 rfl ?_
          refine go_iload e0_307 rfl ?_
          refine go_iload e0_309 rfl ?_
          refine go_iconst e0_311 (x := 1) rfl ?_
          refine go_staticV_6 e0_312 (wd 9 rfl) (wd 10 rfl) (wd 11 rfl) (wd 4 rfl) hy_1 pd_4 rfl (c_place1 hw (n := 5) (s1 := 1) (i := 1) (K := 0) rfl rfl (by decide) (by decide) (by decide) (by decide) (by decide) (by decide) (by decide) rfl (Nat.le_of_ble_eq_true rfl)) rfl 0 rfl (by decide) (by decide) (by decide) (by decide) ?_
          rintro _ rfl
          try simp only [List.replicate_succ, List.replicate_zero, List.set_cons_zero, List.set_cons_succ, List.length_nil, List.length_cons, Nat.zero_add, Nat.reduceAdd, List.nil_append, List.cons_append]
          refine go_aload e0_315 rfl rfl ?_
          refine go_aload e0_317 rfl rfl ?_
          refine go_iload e0_319 rfl ?_
          refine go_iload e0_321 rfl ?_
          refine go_iload e0_323 rfl ?_
          refine go_iconst e0_325 (x := 2) rfl ?_
          refine go_staticV_6 e0_326 (wd 9 rfl) (wd 10 rfl) (wd 11 rfl) (wd 4 rfl) hy_1 pd_4 rfl (c_place1 hw (n := 5) (s1 := 1) (i := 2) (K := 4) rfl rfl (by decide) (by decide) (by decide) (by decide) (by decide) (by decide) (by decide) rfl (Nat.le_of_ble_eq_true rfl)) rfl 0 rfl (by decide) (by decide) (by decide) (by decide) ?_
          rintro _ rfl
          try simp only [List.replicate_succ, List.replicate_zero, List.set_cons_zero, List.set_cons_succ, List.length_nil, List.length_cons, Nat.zero_add, Nat.reduceAdd, List.nil_append, List.cons_append]
          refine go_aload e0_329 rfl rfl ?_
          refine go_aload e0_331 rfl rfl ?_
          refine go_iload e0_333 rfl ?_
          refine go_iload e0_335 rfl ?_
          refine go_iload e0_337 rfl ?_
          refine go_iconst e0_339 (x := 3) rfl ?_
          refine go_staticV_6 e0_340 (wd 9 rfl) (wd 10 rfl) (wd 11 rfl) (wd 4 rfl) hy_1 pd_4 rfl (c_place1 hw (n := 5) (s1 := 1) (i := 3) (K := 3) rfl rfl (by decide) (by decide) (by decide) (by decide) (by decide) (by decide) (by decide) rfl (Nat.le_of_ble_eq_true rfl)) rfl 0 rfl (by decide) (by decide) (by decide) (by decide) ?_
          rintro _ rfl
          try simp only [List.replicate_succ, List.replicate_zero, List.set_cons_zero, List.set_cons_succ, List.length_nil, List.length_cons, Nat.zero_add, Nat.reduceAdd, List.nil_append, List.cons_append]
          refine go_aload e0_343 rfl rfl ?_
          refine go_aload e0_345 rfl rfl ?_
          refine go_iload e0_347 rfl ?_
          refine go_iload e0_349 rfl ?_
          refine go_iload e0_351 rfl ?_
          refine go_iconst e0_353 (x := 4) rfl ?_
          refine go_staticV_6 e0_354 (wd 9 rfl) (wd 10 rfl) (wd 11 rfl) (wd 4 rfl) hy_1 pd_4 rfl (c_place1 hw (n := 5) (s1 := 1) (i := 4) (K := 2) rfl rfl (by decide) (by decide) (by decide) (by decide) (by decide) (by decide) (by decide) rfl (Nat.le_of_ble_eq_true rfl)) rfl 0 rfl (by decide) (by decide) (by decide) (by decide) ?_
          rintro _ rfl
          try simp only [List.replicate_succ, List.replicate_zero, List.set_cons_zero, List.set_cons_succ, List.length_nil, List.length_cons, Nat.zero_add, Nat.reduceAdd, List.nil_append, List.cons_append]
          refine go_aload e0_357 rfl rfl ?_
          refine go_static_1 e0_359 (wd 15 rfl) (wd 16 rfl) (wd 18 rfl) (wd 17 rfl) hy_5 pd_6 rfl (c_norm hw (n := 5) (st := 1) (nn := 5) (va := w4) (vb := w1) rfl rfl (by decide) (by decide) (by intro v hv; simp only [List.mem_cons, List.not_mem_nil, or_false] at hv; rcases hv with rfl | rfl | rfl | rfl | rfl <;> exact ⟨_, rfl⟩) (by decide) rfl (fun j hj => by
              have hj2 : j = 0 := by omega
              subst hj2
              exact ⟨_, rfl, n1⟩) rfl rfl) rfl 0 rfl (by decide) (by decide) (by decide) (by decide) ?_
          rintro _ _ ⟨rfl, out, rfl, hol, hout⟩
          rw [if_neg (by omega)] at hout
          have o0 : out[0]? = some (.int 0) := hout 0 (by decide)
          have o1 : out[1]? = some (.int w1) := hout 1 (by decide)
          have o2 : out[2]? = some (.int w2) := hout 2 (by decide)
          have o3 : out[3]? = some (.int w3) := hout 3 (by decide)
          have o4 : out[4]? = some (.int w4) := hout 4 (by decide)
          try simp only [List.replicate_succ, List.replicate_zero, List.set_cons_zero, List.set_cons_succ, List.length_nil, List.length_cons, Nat.zero_add, Nat.reduceAdd, List.nil_append, List.cons_append]
          refine go_astore_15 e0_362 rfl rfl ?_
          refine go_aload e0_364 rfl rfl ?_
          refine go_aload e0_366 rfl rfl ?_
          refine go_acmp e0_368 rfl rfl (same := false) (by decide) (tg := 379) (by decide) ?_
          show Go C 371 _ _ _ _ _
          refine go_aload e0_371 rfl rfl ?_
          refine go_len e0_373 rfl (n := 5) (by rw [hol]; decide) ?_
          refine go_iload e0_374 rfl ?_
          refine go_iceqY e0_376 (tg := 381) (by decide) rfl ?_
          refine go_aload e0_381 rfl rfl ?_
          refine go_aload e0_383 rfl rfl ?_
          refine go_iload e0_385 rfl ?_
          refine go_iconst e0_387 (x := 0) rfl ?_
          refine go_iconst e0_388 (x := 1) rfl ?_
          refine go_iconst e0_389 (x := 0) rfl ?_
          refine go_static_6 e0_390 (wd 19 rfl) (wd 20 rfl) (wd 21 rfl) (wd 4 rfl) hy_1 pd_7 rfl (c_same1 hw (n := 5) (s1 := 0) (i := 0) (K := 0) rfl rfl (by decide) (by decide) (by decide) (by decide) (by decide) (by decide) (by decide) rfl o0) rfl 0 rfl (by decide) (by decide) (by decide) (by decide) ?_
          rintro _ _ ⟨rfl, rfl⟩
          try simp only [List.replicate_succ, List.replicate_zero, List.set_cons_zero, List.set_cons_succ, List.length_nil, List.length_cons, Nat.zero_add, Nat.reduceAdd, List.nil_append, List.cons_append]
          refine go_ifeqN e0_393 (tg := 460) (by decide) (by decide) ?_
          refine go_aload e0_396 rfl rfl ?_
          refine go_aload e0_398 rfl rfl ?_
          refine go_iload e0_400 rfl ?_
          refine go_iconst e0_402 (x := 0) rfl ?_
          refine go_iconst e0_403 (x := 1) rfl ?_
          refine go_iconst e0_404 (x := 1) rfl ?_
          refine go_static_6 e0_405 (wd 19 rfl) (wd 20 rfl) (wd 21 rfl) (wd 4 rfl) hy_1 pd_7 rfl (c_same1 hw (n := 5) (s1 := 0) (i := 1) (K := 1) rfl rfl (by decide) (by decide) (by decide) (by decide) (by decide) (by decide) (by decide) rfl o1) rfl 0 rfl (by decide) (by decide) (by decide) (by decide) ?_
          rintro _ _ ⟨rfl, rfl⟩
          try simp only [List.replicate_succ, List.replicate_zero, List.set_cons_zero, List.set_cons_succ, List.length_nil, List.length_cons, Nat.zero_add, Nat.reduceAdd, List.nil_append, List.cons_append]
          refine go_ifeqN e0_408 (tg := 460) (by decide) (by decide) ?_
          refine go_aload e0_411 rfl rfl ?_
          refine go_aload e0_413 rfl rfl ?_
          refine go_iload e0_415 rfl ?_
          refine go_iconst e0_417 (x := 0) rfl ?_
          refine go_iconst e0_418 (x := 1) rfl ?_
          refine go_iconst e0_419 (x := 2) rfl ?_
          refine go_static_6 e0_420 (wd 19 rfl) (wd 20 rfl) (wd 21 rfl) (wd 4 rfl) hy_1 pd_7 rfl (c_same1 hw (n := 5) (s1 := 0) (i := 2) (K := 2) rfl rfl (by decide) (by decide) (by decide) (by decide) (by decide) (by decide) (by decide) rfl o2) rfl 0 rfl (by decide) (by decide) (by decide) (by decide) ?_
          rintro _ _ ⟨rfl, rfl⟩
          try simp only [List.replicate_succ, List.replicate_zero, List.set_cons_zero, List.set_cons_succ, List.length_nil, List.length_cons, Nat.zero_add, Nat.reduceAdd, List.nil_append, List.cons_append]
          refine go_ifeqN e0_423 (tg := 460) (by decide) (by decide) ?_
          refine go_aload e0_426 rfl rfl ?_
          refine go_aload e0_428 rfl rfl ?_
          refine go_iload e0_430 rfl ?_
          refine go_iconst e0_432 (x := 0) rfl ?_
          refine go_iconst e0_433 (x := 1) rfl ?_
          refine go_iconst e0_434 (x := 3) rfl ?_
          refine go_static_6 e0_435 (wd 19 rfl) (wd 20 rfl) (wd 21 rfl) (wd 4 rfl) hy_1 pd_7 rfl (c_same1 hw (n := 5) (s1 := 0) (i := 3) (K := 3) rfl rfl (by decide) (by decide) (by decide) (by decide) (by decide) (by decide) (by decide) rfl o3) rfl 0 rfl (by decide) (by decide) (by decide) (by decide) ?_
          rintro _ _ ⟨rfl, rfl⟩
          try simp only [List.replicate_succ, List.replicate_zero, List.set_cons_zero, List.set_cons_succ, List.length_nil, List.length_cons, Nat.zero_add, Nat.reduceAdd, List.nil_append, List.cons_append]
          refine go_ifeqN e0_438 (tg := 460) (by decide) (by decide) ?_
          refine go_aload e0_441 rfl rfl ?_
          refine go_aload e0_443 rfl rfl ?_
          refine go_iload e0_445 rfl ?_
          refine go_iconst e0_447 (x := 0) rfl ?_
          refine go_iconst e0_448 (x := 1) rfl ?_
          refine go_iconst e0_449 (x := 4) rfl ?_
          refine go_static_6 e0_450 (wd 19 rfl) (wd 20 rfl) (wd 21 rfl) (wd 4 rfl) hy_1 pd_7 rfl (c_same1 hw (n := 5) (s1 := 0) (i := 4) (K := 4) rfl rfl (by decide) (by decide) (by decide) (by decide) (by decide) (by decide) (by decide) rfl o4) rfl 0 rfl (by decide) (by decide) (by decide) (by decide) ?_
          rintro _ _ ⟨rfl, rfl⟩
          try simp only [List.replicate_succ, List.replicate_zero, List.set_cons_zero, List.set_cons_succ, List.length_nil, List.length_cons, Nat.zero_add, Nat.reduceAdd, List.nil_append, List.cons_append]
          refine go_ifeqN e0_453 (tg := 460) (by decide) (by decide) ?_
          refine go_iconst e0_456 (x := 1) rfl ?_
          refine go_goto e0_457 (tg := 461) (by decide) ?_
          refine go_istore_16 e0_461 rfl ?_
          refine go_aload e0_463 rfl rfl ?_
          refine go_aload e0_465 rfl rfl ?_
          refine go_iload e0_467 rfl ?_
          refine go_iload e0_469 rfl ?_
          refine go_iload e0_471 rfl ?_
          refine go_iconst e0_473 (x := 0) rfl ?_
          refine go_static_6 e0_474 (wd 19 rfl) (wd 20 rfl) (wd 21 rfl) (wd 4 rfl) hy_1 pd_7 rfl (c_same1 hw (n := 5) (s1 := 1) (i := 0) (K := 1) rfl rfl (by decide) (by decide) (by decide) (by decide) (by decide) (by decide) (by decide) rfl rfl) rfl 0 rfl (by decide) (by decide) (by decide) (by decide) ?_
          rintro _ _ ⟨rfl, rfl⟩
          try simp only [List.replicate_succ, List.replicate_zero, List.set_cons_zero, List.set_cons_succ, List.length_nil, List.length_cons, Nat.zero_add, Nat.reduceAdd, List.nil_append, List.cons_append]
          refine go_ifeqN e0_477 (tg := 552) (by decide) (by decide) ?_
          refine go_aload e0_480 rfl rfl ?_
          refine go_aload e0_482 rfl rfl ?_
          refine go_iload e0_484 rfl ?_
          refine go_iload e0_486 rfl ?_
          refine go_iload e0_488 rfl ?_
          refine go_iconst e0_490 (x := 1) rfl ?_
          refine go_static_6 e0_491 (wd 19 rfl) (wd 20 rfl) (wd 21 rfl) (wd 4 rfl) hy_1 pd_7 rfl (c_same1 hw (n := 5) (s1 := 1) (i := 1) (K := 0) rfl rfl (by decide) (by decide) (by decide) (by decide) (by decide) (by decide) (by decide) rfl rfl) rfl 0 rfl (by decide) (by decide) (by decide) (by decide) ?_
          rintro _ _ ⟨rfl, rfl⟩
          try simp only [List.replicate_succ, List.replicate_zero, List.set_cons_zero, List.set_cons_succ, List.length_nil, List.length_cons, Nat.zero_add, Nat.reduceAdd, List.nil_append, List.cons_append]
          refine go_ifeqN e0_494 (tg := 552) (by decide) (by decide) ?_
          refine go_aload e0_497 rfl rfl ?_
          refine go_aload e0_499 rfl rfl ?_
          refine go_iload e0_501 rfl ?_
          refine go_iload e0_503 rfl ?_
          refine go_iload e0_505 rfl ?_
          refine go_iconst e0_507 (x := 2) rfl ?_
          refine go_static_6 e0_508 (wd 19 rfl) (wd 20 rfl) (wd 21 rfl) (wd 4 rfl) hy_1 pd_7 rfl (c_same1 hw (n := 5) (s1 := 1) (i := 2) (K := 4) rfl rfl (by decide) (by decide) (by decide) (by decide) (by decide) (by decide) (by decide) rfl rfl) rfl 0 rfl (by decide) (by decide) (by decide) (by decide) ?_
          rintro _ _ ⟨rfl, rfl⟩
          try simp only [List.replicate_succ, List.replicate_zero, List.set_cons_zero, List.set_cons_succ, List.length_nil, List.length_cons, Nat.zero_add, Nat.reduceAdd, List.nil_append, List.cons_append]
          refine go_ifeqN e0_511 (tg := 552) (by decide) (by decide) ?_
          refine go_aload e0_514 rfl rfl ?_
          refine go_aload e0_516 rfl rfl ?_
          refine go_iload e0_518 rfl ?_
          refine go_iload e0_520 rfl ?_
          refine go_iload e0_522 rfl ?_
          refine go_iconst e0_524 (x := 3) rfl ?_
          refine go_static_6 e0_525 (wd 19 rfl) (wd 20 rfl) (wd 21 rfl) (wd 4 rfl) hy_1 pd_7 rfl (c_same1 hw (n := 5) (s1 := 1) (i := 3) (K := 3) rfl rfl (by decide) (by decide) (by decide) (by decide) (by decide) (by decide) (by decide) rfl rfl) rfl 0 rfl (by decide) (by decide) (by decide) (by decide) ?_
          rintro _ _ ⟨rfl, rfl⟩
          try simp only [List.replicate_succ, List.replicate_zero, List.set_cons_zero, List.set_cons_succ, List.length_nil, List.length_cons, Nat.zero_add, Nat.reduceAdd, List.nil_append, List.cons_append]
          refine go_ifeqN e0_528 (tg := 552) (by decide) (by decide) ?_
          refine go_aload e0_531 rfl rfl ?_
          refine go_aload e0_533 rfl rfl ?_
          refine go_iload e0_535 rfl ?_
          refine go_iload e0_537 rfl ?_
          refine go_iload e0_539 rfl ?_
          refine go_iconst e0_541 (x := 4) rfl ?_
          refine go_static_6 e0_542 (wd 19 rfl) (wd 20 rfl) (wd 21 rfl) (wd 4 rfl) hy_1 pd_7 rfl (c_same1 hw (n := 5) (s1 := 1) (i := 4) (K := 2) rfl rfl (by decide) (by decide) (by decide) (by decide) (by decide) (by decide) (by decide) rfl rfl) rfl 0 rfl (by decide) (by decide) (by decide) (by decide) ?_
          rintro _ _ ⟨rfl, rfl⟩
          try simp only [List.replicate_succ, List.replicate_zero, List.set_cons_zero, List.set_cons_succ, List.length_nil, List.length_cons, Nat.zero_add, Nat.reduceAdd, List.nil_append, List.cons_append]
          refine go_ifeqN e0_545 (tg := 552) (by decide) (by decide) ?_
          refine go_iconst e0_548 (x := 1) rfl ?_
          refine go_goto e0_549 (tg := 553) (by decide) ?_
          refine go_istore_17 e0_553 rfl ?_
          refine go_iload e0_555 rfl ?_
          refine go_ifeqN e0_557 (tg := 569) (by decide) (by decide) ?_
          refine go_iload e0_560 rfl ?_
          refine go_ifeqN e0_562 (tg := 569) (by decide) (by decide) ?_
          refine go_iconst e0_565 (x := 1) rfl ?_
          refine go_goto e0_566 (tg := 570) (by decide) ?_
          refine go_zreturn e0_570 rfl (by decide) (by decide) (by decide) ?_
          exact rfl
        · intro c271
          refine go_iconst e0_274 (x := 1) rfl ?_
          refine go_goto e0_275 (tg := 279) (by decide) ?_
          refine go_istore_13 e0_279 rfl ?_
          refine go_iload e0_281 rfl ?_
          refine go_newarray e0_283 (wd 1 rfl) (k := 5) rfl (vs := [.int 0, .int 0, .int 0, .int 0, .int 0]) rfl (cap := 5) (by decide) (by decide) (by decide) (by decide) ?_
          simp only [List.replicate_succ, List.replicate_zero, List.set_cons_zero, List.set_cons_succ, List.length_nil, List.length_cons, Nat.zero_add, Nat.reduceAdd, List.nil_append, List.cons_append]
          refine go_astore_14 e0_285 rfl rfl ?_
          refine go_aload e0_287 rfl rfl ?_
          refine go_aload e0_289 rfl rfl ?_
          refine go_iload e0_291 rfl ?_
          refine go_iload e0_293 rfl ?_
          refine go_iload e0_295 rfl ?_
          refine go_iconst e0_297 (x := 0) rfl ?_
          refine go_staticV_6 e0_298 (wd 9 rfl) (wd 10 rfl) (wd 11 rfl) (wd 4 rfl) hy_1 pd_4 rfl (c_place1 hw (n := 5) (s1 := 1) (i := 0) (K := 1) rfl rfl (by decide) (by decide) (by decide) (by decide) (by decide) (by decide) (by decide) rfl (Nat.le_of_ble_eq_true rfl)) rfl 0 rfl (by decide) (by decide) (by decide) (by decide) ?_
          rintro _ rfl
          try simp only [List.replicate_succ, List.replicate_zero, List.set_cons_zero, List.set_cons_succ, List.length_nil, List.length_cons, Nat.zero_add, Nat.reduceAdd, List.nil_append, List.cons_append]
          refine go_aload e0_301 rfl rfl ?_
          refine go_aload e0_303 rfl rfl ?_
          refine go_iload e0_305 rfl ?_
          refine go_iload e0_307 rfl ?_
          refine go_iload e0_309 rfl ?_
          refine go_iconst e0_311 (x := 1) rfl ?_
          refine go_staticV_6 e0_312 (wd 9 rfl) (wd 10 rfl) (wd 11 rfl) (wd 4 rfl) hy_1 pd_4 rfl (c_place1 hw (n := 5) (s1 := 1) (i := 1) (K := 2) rfl rfl (by decide) (by decide) (by decide) (by decide) (by decide) (by decide) (by decide) rfl (Nat.le_of_ble_eq_true rfl)) rfl 0 rfl (by decide) (by decide) (by decide) (by decide) ?_
          rintro _ rfl
          try simp only [List.replicate_succ, List.replicate_zero, List.set_cons_zero, List.set_cons_succ, List.length_nil, List.length_cons, Nat.zero_add, Nat.reduceAdd, List.nil_append, List.cons_append]
          refine go_aload e0_315 rfl rfl ?_
          refine go_aload e0_317 rfl rfl ?_
          refine go_iload e0_319 rfl ?_
          refine go_iload e0_321 rfl ?_
          refine go_iload e0_323 rfl ?_
          refine go_iconst e0_325 (x := 2) rfl ?_
          refine go_staticV_6 e0_326 (wd 9 rfl) (wd 10 rfl) (wd 11 rfl) (wd 4 rfl) hy_1 pd_4 rfl (c_place1 hw (n := 5) (s1 := 1) (i := 2) (K := 3) rfl rfl (by decide) (by decide) (by decide) (by decide) (by decide) (by decide) (by decide) rfl (Nat.le_of_ble_eq_true rfl)) rfl 0 rfl (by decide) (by decide) (by decide) (by decide) ?_
          rintro _ rfl
          try simp only [List.replicate_succ, List.replicate_zero, List.set_cons_zero, List.set_cons_succ, List.length_nil, List.length_cons, Nat.zero_add, Nat.reduceAdd, List.nil_append, List.cons_append]
          refine go_aload e0_329 rfl rfl ?_
          refine go_aload e0_331 rfl rfl ?_
          refine go_iload e0_333 rfl ?_
          refine go_iload e0_335 rfl ?_
          refine go_iload e0_337 rfl ?_
          refine go_iconst e0_339 (x := 3) rfl ?_
          refine go_staticV_6 e0_340 (wd 9 rfl) (wd 10 rfl) (wd 11 rfl) (wd 4 rfl) hy_1 pd_4 rfl (c_place1 hw (n := 5) (s1 := 1) (i := 3) (K := 4) rfl rfl (by decide) (by decide) (by decide) (by decide) (by decide) (by decide) (by decide) rfl (Nat.le_of_ble_eq_true rfl)) rfl 0 rfl (by decide) (by decide) (by decide) (by decide) ?_
          rintro _ rfl
          try simp only [List.replicate_succ, List.replicate_zero, List.set_cons_zero, List.set_cons_succ, List.length_nil, List.length_cons, Nat.zero_add, Nat.reduceAdd, List.nil_append, List.cons_append]
          refine go_aload e0_343 rfl rfl ?_
          refine go_aload e0_345 rfl rfl ?_
          refine go_iload e0_347 rfl ?_
          refine go_iload e0_349 rfl ?_
          refine go_iload e0_351 rfl ?_
          refine go_iconst e0_353 (x := 4) rfl ?_
          refine go_staticV_6 e0_354 (wd 9 rfl) (wd 10 rfl) (wd 11 rfl) (wd 4 rfl) hy_1 pd_4 rfl (c_place1 hw (n := 5) (s1 := 1) (i := 4) (K := 0) rfl rfl (by decide) (by decide) (by decide) (by decide) (by decide) (by decide) (by decide) rfl (Nat.le_of_ble_eq_true rfl)) rfl 0 rfl (by decide) (by decide) (by decide) (by decide) ?_
          rintro _ rfl
          try simp only [List.replicate_succ, List.replicate_zero, List.set_cons_zero, List.set_cons_succ, List.length_nil, List.length_cons, Nat.zero_add, Nat.reduceAdd, List.nil_append, List.cons_append]
          refine go_aload e0_357 rfl rfl ?_
          refine go_static_1 e0_359 (wd 15 rfl) (wd 16 rfl) (wd 18 rfl) (wd 17 rfl) hy_5 pd_6 rfl (c_norm hw (n := 5) (st := 1) (nn := 5) (va := w1) (vb := w4) rfl rfl (by decide) (by decide) (by intro v hv; simp only [List.mem_cons, List.not_mem_nil, or_false] at hv; rcases hv with rfl | rfl | rfl | rfl | rfl <;> exact ⟨_, rfl⟩) (by decide) rfl (fun j hj => by
              have hj2 : j = 0 := by omega
              subst hj2
              exact ⟨_, rfl, n4⟩) rfl rfl) rfl 0 rfl (by decide) (by decide) (by decide) (by decide) ?_
          rintro _ _ ⟨rfl, out, rfl, hol, hout⟩
          rw [if_pos (by omega)] at hout
          have o0 : out[0]? = some (.int 0) := hout 0 (by decide)
          have o1 : out[1]? = some (.int w1) := hout 1 (by decide)
          have o2 : out[2]? = some (.int w2) := hout 2 (by decide)
          have o3 : out[3]? = some (.int w3) := hout 3 (by decide)
          have o4 : out[4]? = some (.int w4) := hout 4 (by decide)
          try simp only [List.replicate_succ, List.replicate_zero, List.set_cons_zero, List.set_cons_succ, List.length_nil, List.length_cons, Nat.zero_add, Nat.reduceAdd, List.nil_append, List.cons_append]
          refine go_astore_15 e0_362 rfl rfl ?_
          refine go_aload e0_364 rfl rfl ?_
          refine go_aload e0_366 rfl rfl ?_
          refine go_acmp e0_368 rfl rfl (same := false) (by decide) (tg := 379) (by decide) ?_
          show Go C 371 _ _ _ _ _
          refine go_aload e0_371 rfl rfl ?_
          refine go_len e0_373 rfl (n := 5) (by rw [hol]; decide) ?_
          refine go_iload e0_374 rfl ?_
          refine go_iceqY e0_376 (tg := 381) (by decide) rfl ?_
          refine go_aload e0_381 rfl rfl ?_
          refine go_aload e0_383 rfl rfl ?_
          refine go_iload e0_385 rfl ?_
          refine go_iconst e0_387 (x := 0) rfl ?_
          refine go_iconst e0_388 (x := 1) rfl ?_
          refine go_iconst e0_389 (x := 0) rfl ?_
          refine go_static_6 e0_390 (wd 19 rfl) (wd 20 rfl) (wd 21 rfl) (wd 4 rfl) hy_1 pd_7 rfl (c_same1 hw (n := 5) (s1 := 0) (i := 0) (K := 0) rfl rfl (by decide) (by decide) (by decide) (by decide) (by decide) (by decide) (by decide) rfl o0) rfl 0 rfl (by decide) (by decide) (by decide) (by decide) ?_
          rintro _ _ ⟨rfl, rfl⟩
          try simp only [List.replicate_succ, List.replicate_zero, List.set_cons_zero, List.set_cons_succ, List.length_nil, List.length_cons, Nat.zero_add, Nat.reduceAdd, List.nil_append, List.cons_append]
          refine go_ifeqN e0_393 (tg := 460) (by decide) (by decide) ?_
          refine go_aload e0_396 rfl rfl ?_
          refine go_aload e0_398 rfl rfl ?_
          refine go_iload e0_400 rfl ?_
          refine go_iconst e0_402 (x := 0) rfl ?_
          refine go_iconst e0_403 (x := 1) rfl ?_
          refine go_iconst e0_404 (x := 1) rfl ?_
          refine go_static_6 e0_405 (wd 19 rfl) (wd 20 rfl) (wd 21 rfl) (wd 4 rfl) hy_1 pd_7 rfl (c_same1 hw (n := 5) (s1 := 0) (i := 1) (K := 1) rfl rfl (by decide) (by decide) (by decide) (by decide) (by decide) (by decide) (by decide) rfl o1) rfl 0 rfl (by decide) (by decide) (by decide) (by decide) ?_
          rintro _ _ ⟨rfl, rfl⟩
          try simp only [List.replicate_succ, List.replicate_zero, List.set_cons_zero, List.set_cons_succ, List.length_nil, List.length_cons, Nat.zero_add, Nat.reduceAdd, List.nil_append, List.cons_append]
          refine go_ifeqN e0_408 (tg := 460) (by decide) (by decide) ?_
          refine go_aload e0_411 rfl rfl ?_
          refine go_aload e0_413 rfl rfl ?_
          refine go_iload e0_415 rfl ?_
          refine go_iconst e0_417 (x := 0) rfl ?_
          refine go_iconst e0_418 (x := 1) rfl ?_
          refine go_iconst e0_419 (x := 2) rfl ?_
          refine go_static_6 e0_420 (wd 19 rfl) (wd 20 rfl) (wd 21 rfl) (wd 4 rfl) hy_1 pd_7 rfl (c_same1 hw (n := 5) (s1 := 0) (i := 2) (K := 2) rfl rfl (by decide) (by decide) (by decide) (by decide) (by decide) (by decide) (by decide) rfl o2) rfl 0 rfl (by decide) (by decide) (by decide) (by decide) ?_
          rintro _ _ ⟨rfl, rfl⟩
          try simp only [List.replicate_succ, List.replicate_zero, List.set_cons_zero, List.set_cons_succ, List.length_nil, List.length_cons, Nat.zero_add, Nat.reduceAdd, List.nil_append, List.cons_append]
          refine go_ifeqN e0_423 (tg := 460) (by decide) (by decide) ?_
          refine go_aload e0_426 rfl rfl ?_
          refine go_aload e0_428 rfl rfl ?_
          refine go_iload e0_430 rfl ?_
          refine go_iconst e0_432 (x := 0) rfl ?_
          refine go_iconst e0_433 (x := 1) rfl ?_
          refine go_iconst e0_434 (x := 3) rfl ?_
          refine go_static_6 e0_435 (wd 19 rfl) (wd 20 rfl) (wd 21 rfl) (wd 4 rfl) hy_1 pd_7 rfl (c_same1 hw (n := 5) (s1 := 0) (i := 3) (K := 3) rfl rfl (by decide) (by decide) (by decide) (by decide) (by decide) (by decide) (by decide) rfl o3) rfl 0 rfl (by decide) (by decide) (by decide) (by decide) ?_
          rintro _ _ ⟨rfl, rfl⟩
          try simp only [List.replicate_succ, List.replicate_zero, List.set_cons_zero, List.set_cons_succ, List.length_nil, List.length_cons, Nat.zero_add, Nat.reduceAdd, List.nil_append, List.cons_append]
          refine go_ifeqN e0_438 (tg := 460) (by decide) (by decide) ?_
          refine go_aload e0_441 rfl rfl ?_
          refine go_aload e0_443 rfl rfl ?_
          refine go_iload e0_445 rfl ?_
          refine go_iconst e0_447 (x := 0) rfl ?_
          refine go_iconst e0_448 (x := 1) rfl ?_
          refine go_iconst e0_449 (x := 4) rfl ?_
          refine go_static_6 e0_450 (wd 19 rfl) (wd 20 rfl) (wd 21 rfl) (wd 4 rfl) hy_1 pd_7 rfl (c_same1 hw (n := 5) (s1 := 0) (i := 4) (K := 4) rfl rfl (by decide) (by decide) (by decide) (by decide) (by decide) (by decide) (by decide) rfl o4) rfl 0 rfl (by decide) (by decide) (by decide) (by decide) ?_
          rintro _ _ ⟨rfl, rfl⟩
          try simp only [List.replicate_succ, List.replicate_zero, List.set_cons_zero, List.set_cons_succ, List.length_nil, List.length_cons, Nat.zero_add, Nat.reduceAdd, List.nil_append, List.cons_append]
          refine go_ifeqN e0_453 (tg := 460) (by decide) (by decide) ?_
          refine go_iconst e0_456 (x := 1) rfl ?_
          refine go_goto e0_457 (tg := 461) (by decide) ?_
          refine go_istore_16 e0_461 rfl ?_
          refine go_aload e0_463 rfl rfl ?_
          refine go_aload e0_465 rfl rfl ?_
          refine go_iload e0_467 rfl ?_
          refine go_iload e0_469 rfl ?_
          refine go_iload e0_471 rfl ?_
          refine go_iconst e0_473 (x := 0) rfl ?_
          refine go_static_6 e0_474 (wd 19 rfl) (wd 20 rfl) (wd 21 rfl) (wd 4 rfl) hy_1 pd_7 rfl (c_same1 hw (n := 5) (s1 := 1) (i := 0) (K := 1) rfl rfl (by decide) (by decide) (by decide) (by decide) (by decide) (by decide) (by decide) rfl rfl) rfl 0 rfl (by decide) (by decide) (by decide) (by decide) ?_
          rintro _ _ ⟨rfl, rfl⟩
          try simp only [List.replicate_succ, List.replicate_zero, List.set_cons_zero, List.set_cons_succ, List.length_nil, List.length_cons, Nat.zero_add, Nat.reduceAdd, List.nil_append, List.cons_append]
          refine go_ifeqN e0_477 (tg := 552) (by decide) (by decide) ?_
          refine go_aload e0_480 rfl rfl ?_
          refine go_aload e0_482 rfl rfl ?_
          refine go_iload e0_484 rfl ?_
          refine go_iload e0_486 rfl ?_
          refine go_iload e0_488 rfl ?_
          refine go_iconst e0_490 (x := 1) rfl ?_
          refine go_static_6 e0_491 (wd 19 rfl) (wd 20 rfl) (wd 21 rfl) (wd 4 rfl) hy_1 pd_7 rfl (c_same1 hw (n := 5) (s1 := 1) (i := 1) (K := 2) rfl rfl (by decide) (by decide) (by decide) (by decide) (by decide) (by decide) (by decide) rfl rfl) rfl 0 rfl (by decide) (by decide) (by decide) (by decide) ?_
          rintro _ _ ⟨rfl, rfl⟩
          try simp only [List.replicate_succ, List.replicate_zero, List.set_cons_zero, List.set_cons_succ, List.length_nil, List.length_cons, Nat.zero_add, Nat.reduceAdd, List.nil_append, List.cons_append]
          refine go_ifeqN e0_494 (tg := 552) (by decide) (by decide) ?_
          refine go_aload e0_497 rfl rfl ?_
          refine go_aload e0_499 rfl rfl ?_
          refine go_iload e0_501 rfl ?_
          refine go_iload e0_503 rfl ?_
          refine go_iload e0_505 rfl ?_
          refine go_iconst e0_507 (x := 2) rfl ?_
          refine go_static_6 e0_508 (wd 19 rfl) (wd 20 rfl) (wd 21 rfl) (wd 4 rfl) hy_1 pd_7 rfl (c_same1 hw (n := 5) (s1 := 1) (i := 2) (K := 3) rfl rfl (by decide) (by decide) (by decide) (by decide) (by decide) (by decide) (by decide) rfl rfl) rfl 0 rfl (by decide) (by decide) (by decide) (by decide) ?_
          rintro _ _ ⟨rfl, rfl⟩
          try simp only [List.replicate_succ, List.replicate_zero, List.set_cons_zero, List.set_cons_succ, List.length_nil, List.length_cons, Nat.zero_add, Nat.reduceAdd, List.nil_append, List.cons_append]
          refine go_ifeqN e0_511 (tg := 552) (by decide) (by decide) ?_
          refine go_aload e0_514 rfl rfl ?_
          refine go_aload e0_516 rfl rfl ?_
          refine go_iload e0_518 rfl ?_
          refine go_iload e0_520 rfl ?_
          refine go_iload e0_522 rfl ?_
          refine go_iconst e0_524 (x := 3) rfl ?_
          refine go_static_6 e0_525 (wd 19 rfl) (wd 20 rfl) (wd 21 rfl) (wd 4 rfl) hy_1 pd_7 rfl (c_same1 hw (n := 5) (s1 := 1) (i := 3) (K := 4) rfl rfl (by decide) (by decide) (by decide) (by decide) (by decide) (by decide) (by decide) rfl rfl) rfl 0 rfl (by decide) (by decide) (by decide) (by decide) ?_
          rintro _ _ ⟨rfl, rfl⟩
          try simp only [List.replicate_succ, List.replicate_zero, List.set_cons_zero, List.set_cons_succ, List.length_nil, List.length_cons, Nat.zero_add, Nat.reduceAdd, List.nil_append, List.cons_append]
          refine go_ifeqN e0_528 (tg := 552) (by decide) (by decide) ?_
          refine go_aload e0_531 rfl rfl ?_
          refine go_aload e0_533 rfl rfl ?_
          refine go_iload e0_535 rfl ?_
          refine go_iload e0_537 rfl ?_
          refine go_iload e0_539 rfl ?_
          refine go_iconst e0_541 (x := 4) rfl ?_
          refine go_static_6 e0_542 (wd 19 rfl) (wd 20 rfl) (wd 21 rfl) (wd 4 rfl) hy_1 pd_7 rfl (c_same1 hw (n := 5) (s1 := 1) (i := 4) (K := 0) rfl rfl (by decide) (by decide) (by decide) (by decide) (by decide) (by decide) (by decide) rfl rfl) rfl 0 rfl (by decide) (by decide) (by decide) (by decide) ?_
          rintro _ _ ⟨rfl, rfl⟩
          try simp only [List.replicate_succ, List.replicate_zero, List.set_cons_zero, List.set_cons_succ, List.length_nil, List.length_cons, Nat.zero_add, Nat.reduceAdd, List.nil_append, List.cons_append]
          refine go_ifeqN e0_545 (tg := 552) (by decide) (by decide) ?_
          refine go_iconst e0_548 (x := 1) rfl ?_
          refine go_goto e0_549 (tg := 553) (by decide) ?_
          refine go_istore_17 e0_553 rfl ?_
          refine go_iload e0_555 rfl ?_
          refine go_ifeqN e0_557 (tg := 569) (by decide) (by decide) ?_
          refine go_iload e0_560 rfl ?_
          refine go_ifeqN e0_562 (tg := 569) (by decide) (by decide) ?_
          refine go_iconst e0_565 (x := 1) rfl ?_
          refine go_goto e0_566 (tg := 570) (by decide) ?_
          refine go_zreturn e0_570 rfl (by decide) (by decide) (by decide) ?_
          exact rfl
      · refine go_iloadN e0_268 rfl ?_
        refine go_iconst e0_269 (x := 1) rfl ?_
        refine go_iand e0_270 ?_
        refine go_ifeq e0_271 (tg := 278) (by decide) ?_ ?_
        · intro c271
          refine go_iconst e0_278 (x := 0) rfl ?_
          refine go_istore_13 e0_279 rfl ?_
          refine go_iload e0_281 rfl ?_
          refine go_newarray e0_283 (wd 1 rfl) (k := 5) rfl (vs := [.int 0, .int 0, .int 0, .int 0, .int 0]) rfl (cap := 5) (by decide) (by decide) (by decide) (by decide) ?_
          simp only [List.replicate_succ, List.replicate_zero, List.set_cons_zero, List.set_cons_succ, List.length_nil, List.length_cons, Nat.zero_add, Nat.reduceAdd, List.nil_append, List.cons_append]
          refine go_astore_14 e0_285 rfl rfl ?_
          refine go_aload e0_287 rfl rfl ?_
          refine go_aload e0_289 rfl rfl ?_
          refine go_iload e0_291 rfl ?_
          refine go_iload e0_293 rfl ?_
          refine go_iload e0_295 rfl ?_
          refine go_iconst e0_297 (x := 0) rfl ?_
          refine go_staticV_6 e0_298 (wd 9 rfl) (wd 10 rfl) (wd 11 rfl) (wd 4 rfl) hy_1 pd_4 rfl (c_place1 hw (n := 5) (s1 := 2) (i := 0) (K := 2) rfl rfl (by decide) (by decide) (by decide) (by decide) (by decide) (by decide) (by decide) rfl (Nat.le_of_ble_eq_true rfl)) rfl 0 rfl (by decide) (by decide) (by decide) (by decide) ?_
          rintro _ rfl
          try simp only [List.replicate_succ, List.replicate_zero, List.set_cons_zero, List.set_cons_succ, List.length_nil, List.length_cons, Nat.zero_add, Nat.reduceAdd, List.nil_append, List.cons_append]
          refine go_aload e0_301 rfl rfl ?_
          refine go_aload e0_303 rfl rfl ?_
          refine go_iload e0_305 rfl ?_
          refine go_iload e0_307 rfl ?_
          refine go_iload e0_309 rfl ?_
          refine go_iconst e0_311 (x := 1) rfl ?_
          refine go_staticV_6 e0_312 (wd 9 rfl) (wd 10 rfl) (wd 11 rfl) (wd 4 rfl) hy_1 pd_4 rfl (c_place1 hw (n := 5) (s1 := 2) (i := 1) (K := 1) rfl rfl (by decide) (by decide) (by decide) (by decide) (by decide) (by decide) (by decide) rfl (Nat.le_of_ble_eq_true rfl)) rfl 0 rfl (by decide) (by decide) (by decide) (by decide) ?_
          rintro _ rfl
          try simp only [List.replicate_succ, List.replicate_zero, List.set_cons_zero, List.set_cons_succ, List.length_nil, List.length_cons, Nat.zero_add, Nat.reduceAdd, List.nil_append, List.cons_append]
          refine go_aload e0_315 rfl rfl ?_
          refine go_aload e0_317 rfl rfl ?_
          refine go_iload e0_319 rfl ?_
          refine go_iload e0_321 rfl ?_
          refine go_iload e0_323 rfl ?_
          refine go_iconst e0_325 (x := 2) rfl ?_
          refine go_staticV_6 e0_326 (wd 9 rfl) (wd 10 rfl) (wd 11 rfl) (wd 4 rfl) hy_1 pd_4 rfl (c_place1 hw (n := 5) (s1 := 2) (i := 2) (K := 0) rfl rfl (by decide) (by decide) (by decide) (by decide) (by decide) (by decide) (by decide) rfl (Nat.le_of_ble_eq_true rfl)) rfl 0 rfl (by decide) (by decide) (by decide) (by decide) ?_
          rintro _ rfl
          try simp only [List.replicate_succ, List.replicate_zero, List.set_cons_zero, List.set_cons_succ, List.length_nil, List.length_cons, Nat.zero_add, Nat.reduceAdd, List.nil_append, List.cons_append]
          refine go_aload e0_329 rfl rfl ?_
          refine go_aload e0_331 rfl rfl ?_
          refine go_iload e0_333 rfl ?_
          refine go_iload e0_335 rfl ?_
          refine go_iload e0_337 rfl ?_
          refine go_iconst e0_339 (x := 3) rfl ?_
          refine go_staticV_6 e0_340 (wd 9 rfl) (wd 10 rfl) (wd 11 rfl) (wd 4 rfl) hy_1 pd_4 rfl (c_place1 hw (n := 5) (s1 := 2) (i := 3) (K := 4) rfl rfl (by decide) (by decide) (by decide) (by decide) (by decide) (by decide) (by decide) rfl (Nat.le_of_ble_eq_true rfl)) rfl 0 rfl (by decide) (by decide) (by decide) (by decide) ?_
          rintro _ rfl
          try simp only [List.replicate_succ, List.replicate_zero, List.set_cons_zero, List.set_cons_succ, List.length_nil, List.length_cons, Nat.zero_add, Nat.reduceAdd, List.nil_append, List.cons_append]
          refine go_aload e0_343 rfl rfl ?_
          refine go_aload e0_345 rfl rfl ?_
          refine go_iload e0_347 rfl ?_
          refine go_iload e0_349 rfl ?_
          refine go_iload e0_351 rfl ?_
          refine go_iconst e0_353 (x := 4) rfl ?_
          refine go_staticV_6 e0_354 (wd 9 rfl) (wd 10 rfl) (wd 11 rfl) (wd 4 rfl) hy_1 pd_4 rfl (c_place1 hw (n := 5) (s1 := 2) (i := 4) (K := 3) rfl rfl (by decide) (by decide) (by decide) (by decide) (by decide) (by decide) (by decide) rfl (Nat.le_of_ble_eq_true rfl)) rfl 0 rfl (by decide) (by decide) (by decide) (by decide) ?_
          rintro _ rfl
          try simp only [List.replicate_succ, List.replicate_zero, List.set_cons_zero, List.set_cons_succ, List.length_nil, List.length_cons, Nat.zero_add, Nat.reduceAdd, List.nil_append, List.cons_append]
          refine go_aload e0_357 rfl rfl ?_
          refine go_static_1 e0_359 (wd 15 rfl) (wd 16 rfl) (wd 18 rfl) (wd 17 rfl) hy_5 pd_6 rfl (c_norm hw (n := 5) (st := 2) (nn := 5) (va := w4) (vb := w1) rfl rfl (by decide) (by decide) (by intro v hv; simp only [List.mem_cons, List.not_mem_nil, or_false] at hv; rcases hv with rfl | rfl | rfl | rfl | rfl <;> exact ⟨_, rfl⟩) (by decide) rfl (fun j hj => by
              have hj2 : j = 0 ∨ j = 1 := by omega
              rcases hj2 with rfl | rfl
              · exact ⟨_, rfl, n2⟩
              · exact ⟨_, rfl, n1⟩) rfl rfl) rfl 0 rfl (by decide) (by decide) (by decide) (by decide) ?_
          rintro _ _ ⟨rfl, out, rfl, hol, hout⟩
          rw [if_neg (by omega)] at hout
          have o0 : out[0]? = some (.int 0) := hout 0 (by decide)
          have o1 : out[1]? = some (.int w1) := hout 1 (by decide)
          have o2 : out[2]? = some (.int w2) := hout 2 (by decide)
          have o3 : out[3]? = some (.int w3) := hout 3 (by decide)
          have o4 : out[4]? = some (.int w4) := hout 4 (by decide)
          try simp only [List.replicate_succ, List.replicate_zero, List.set_cons_zero, List.set_cons_succ, List.length_nil, List.length_cons, Nat.zero_add, Nat.reduceAdd, List.nil_append, List.cons_append]
          refine go_astore_15 e0_362 rfl rfl ?_
          refine go_aload e0_364 rfl rfl ?_
          refine go_aload e0_366 rfl rfl ?_
          refine go_acmp e0_368 rfl rfl (same := false) (by decide) (tg := 379) (by decide) ?_
          show Go C 371 _ _ _ _ _
          refine go_aload e0_371 rfl rfl ?_
          refine go_len e0_373 rfl (n := 5) (by rw [hol]; decide) ?_
          refine go_iload e0_374 rfl ?_
          refine go_iceqY e0_376 (tg := 381) (by decide) rfl ?_
          refine go_aload e0_381 rfl rfl ?_
          refine go_aload e0_383 rfl rfl ?_
          refine go_iload e0_385 rfl ?_
          refine go_iconst e0_387 (x := 0) rfl ?_
          refine go_iconst e0_388 (x := 1) rfl ?_
          refine go_iconst e0_389 (x := 0) rfl ?_
          refine go_static_6 e0_390 (wd 19 rfl) (wd 20 rfl) (wd 21 rfl) (wd 4 rfl) hy_1 pd_7 rfl (c_same1 hw (n := 5) (s1 := 0) (i := 0) (K := 0) rfl rfl (by decide) (by decide) (by decide) (by decide) (by decide) (by decide) (by decide) rfl o0) rfl 0 rfl (by decide) (by decide) (by decide) (by decide) ?_
          rintro _ _ ⟨rfl, rfl⟩
          try simp only [List.replicate_succ, List.replicate_zero, List.set_cons_zero, List.set_cons_succ, List.length_nil, List.length_cons, Nat.zero_add, Nat.reduceAdd, List.nil_append, List.cons_append]
          refine go_ifeqN e0_393 (tg := 460) (by decide) (by decide) ?_
          refine go_aload e0_396 rfl rfl ?_
          refine go_aload e0_398 rfl rfl ?_
          refine go_iload e0_400 rfl ?_
          refine go_iconst e0_402 (x := 0) rfl ?_
          refine go_iconst e0_403 (x := 1) rfl ?_
          refine go_iconst e0_404 (x := 1) rfl ?_
          refine go_static_6 e0_405 (wd 19 rfl) (wd 20 rfl) (wd 21 rfl) (wd 4 rfl) hy_1 pd_7 rfl (c_same1 hw (n := 5) (s1 := 0) (i := 1) (K := 1) rfl rfl (by decide) (by decide) (by decide) (by decide) (by decide) (by decide) (by decide) rfl o1) rfl 0 rfl (by decide) (by decide) (by decide) (by decide) ?_
          rintro _ _ ⟨rfl, rfl⟩
          try simp only [List.replicate_succ, List.replicate_zero, List.set_cons_zero, List.set_cons_succ, List.length_nil, List.length_cons, Nat.zero_add, Nat.reduceAdd, List.nil_append, List.cons_append]
          refine go_ifeqN e0_408 (tg := 460) (by decide) (by decide) ?_
          refine go_aload e0_411 rfl rfl ?_
          refine go_aload e0_413 rfl rfl ?_
          refine go_iload e0_415 rfl ?_
          refine go_iconst e0_417 (x := 0) rfl ?_
          refine go_iconst e0_418 (x := 1) rfl ?_
          refine go_iconst e0_419 (x := 2) rfl ?_
          refine go_static_6 e0_420 (wd 19 rfl) (wd 20 rfl) (wd 21 rfl) (wd 4 rfl) hy_1 pd_7 rfl (c_same1 hw (n := 5) (s1 := 0) (i := 2) (K := 2) rfl rfl (by decide) (by decide) (by decide) (by decide) (by decide) (by decide) (by decide) rfl o2) rfl 0 rfl (by decide) (by decide) (by decide) (by decide) ?_
          rintro _ _ ⟨rfl, rfl⟩
          try simp only [List.replicate_succ, List.replicate_zero, List.set_cons_zero, List.set_cons_succ, List.length_nil, List.length_cons, Nat.zero_add, Nat.reduceAdd, List.nil_append, List.cons_append]
          refine go_ifeqN e0_423 (tg := 460) (by decide) (by decide) ?_
          refine go_aload e0_426 rfl rfl ?_
          refine go_aload e0_428 rfl rfl ?_
          refine go_iload e0_430 rfl ?_
          refine go_iconst e0_432 (x := 0) rfl ?_
          refine go_iconst e0_433 (x := 1) rfl ?_
          refine go_iconst e0_434 (x := 3) rfl ?_
          refine go_static_6 e0_435 (wd 19 rfl) (wd 20 rfl) (wd 21 rfl) (wd 4 rfl) hy_1 pd_7 rfl (c_same1 hw (n := 5) (s1 := 0) (i := 3) (K := 3) rfl rfl (by decide) (by decide) (by decide) (by decide) (by decide) (by decide) (by decide) rfl o3) rfl 0 rfl (by decide) (by decide) (by decide) (by decide) ?_
          rintro _ _ ⟨rfl, rfl⟩
          try simp only [List.replicate_succ, List.replicate_zero, List.set_cons_zero, List.set_cons_succ, List.length_nil, List.length_cons, Nat.zero_add, Nat.reduceAdd, List.nil_append, List.cons_append]
          refine go_ifeqN e0_438 (tg := 460) (by decide) (by decide) ?_
          refine go_aload e0_441 rfl rfl ?_
          refine go_aload e0_443 rfl rfl ?_
          refine go_iload e0_445 rfl ?_
          refine go_iconst e0_447 (x := 0) rfl ?_
          refine go_iconst e0_448 (x := 1) rfl ?_
          refine go_iconst e0_449 (x := 4) rfl ?_
          refine go_static_6 e0_450 (wd 19 rfl) (wd 20 rfl) (wd 21 rfl) (wd 4 rfl) hy_1 pd_7 rfl (c_same1 hw (n := 5) (s1 := 0) (i := 4) (K := 4) rfl rfl (by decide) (by decide) (by decide) (by decide) (by decide) (by decide) (by decide) rfl o4) rfl 0 rfl (by decide) (by decide) (by decide) (by decide) ?_
          rintro _ _ ⟨rfl, rfl⟩
          try simp only [List.replicate_succ, List.replicate_zero, List.set_cons_zero, List.set_cons_succ, List.length_nil, List.length_cons, Nat.zero_add, Nat.reduceAdd, List.nil_append, List.cons_append]
          refine go_ifeqN e0_453 (tg := 460) (by decide) (by decide) ?_
          refine go_iconst e0_456 (x := 1) rfl ?_
          refine go_goto e0_457 (tg := 461) (by decide) ?_
          refine go_istore_16 e0_461 rfl ?_
          refine go_aload e0_463 rfl rfl ?_
          refine go_aload e0_465 rfl rfl ?_
          refine go_iload e0_467 rfl ?_
          refine go_iload e0_469 rfl ?_
          refine go_iload e0_471 rfl ?_
          refine go_iconst e0_473 (x := 0) rfl ?_
          refine go_static_6 e0_474 (wd 19 rfl) (wd 20 rfl) (wd 21 rfl) (wd 4 rfl) hy_1 pd_7 rfl (c_same1 hw (n := 5) (s1 := 2) (i := 0) (K := 2) rfl rfl (by decide) (by decide) (by decide) (by decide) (by decide) (by decide) (by decide) rfl rfl) rfl 0 rfl (by decide) (by decide) (by decide) (by decide) ?_
          rintro _ _ ⟨rfl, rfl⟩
          try simp only [List.replicate_succ, List.replicate_zero, List.set_cons_zero, List.set_cons_succ, List.length_nil, List.length_cons, Nat.zero_add, Nat.reduceAdd, List.nil_append, List.cons_append]
          refine go_ifeqN e0_477 (tg := 552) (by decide) (by decide) ?_
          refine go_aload e0_480 rfl rfl ?_
          refine go_aload e0_482 rfl rfl ?_
          refine go_iload e0_484 rfl ?_
          refine go_iload e0_486 rfl ?_
          refine go_iload e0_488 rfl ?_
          refine go_iconst e0_490 (x := 1) rfl ?_
          refine go_static_6 e0_491 (wd 19 rfl) (wd 20 rfl) (wd 21 rfl) (wd 4 rfl) hy_1 pd_7 rfl (c_same1 hw (n := 5) (s1 := 2) (i := 1) (K := 1) rfl rfl (by decide) (by decide) (by decide) (by decide) (by decide) (by decide) (by decide) rfl rfl) rfl 0 rfl (by decide) (by decide) (by decide) (by decide) ?_
          rintro _ _ ⟨rfl, rfl⟩
          try simp only [List.replicate_succ, List.replicate_zero, List.set_cons_zero, List.set_cons_succ, List.length_nil, List.length_cons, Nat.zero_add, Nat.reduceAdd, List.nil_append, List.cons_append]
          refine go_ifeqN e0_494 (tg := 552) (by decide) (by decide) ?_
          refine go_aload e0_497 rfl rfl ?_
          refine go_aload e0_499 rfl rfl ?_
          refine go_iload e0_501 rfl ?_
          refine go_iload e0_503 rfl ?_
          refine go_iload e0_505 rfl ?_
          refine go_iconst e0_507 (x := 2) rfl ?_
          refine go_static_6 e0_508 (wd 19 rfl) (wd 20 rfl) (wd 21 rfl) (wd 4 rfl) hy_1 pd_7 rfl (c_same1 hw (n := 5) (s1 := 2) (i := 2) (K := 0) rfl rfl (by decide) (by decide) (by decide) (by decide) (by decide) (by decide) (by decide) rfl rfl) rfl 0 rfl (by decide) (by decide) (by decide) (by decide) ?_
          rintro _ _ ⟨rfl, rfl⟩
          try simp only [List.replicate_succ, List.replicate_zero, List.set_cons_zero, List.set_cons_succ, List.length_nil, List.length_cons, Nat.zero_add, Nat.reduceAdd, List.nil_append, List.cons_append]
          refine go_ifeqN e0_511 (tg := 552) (by decide) (by decide) ?_
          refine go_aload e0_514 rfl rfl ?_
          refine go_aload e0_516 rfl rfl ?_
          refine go_iload e0_518 rfl ?_
          refine go_iload e0_520 rfl ?_
          refine go_iload e0_522 rfl ?_
          refine go_iconst e0_524 (x := 3) rfl ?_
          refine go_static_6 e0_525 (wd 19 rfl) (wd 20 rfl) (wd 21 rfl) (wd 4 rfl) hy_1 pd_7 rfl (c_same1 hw (n := 5) (s1 := 2) (i := 3) (K := 4) rfl rfl (by decide) (by decide) (by decide) (by decide) (by decide) (by decide) (by decide) rfl rfl) rfl 0 rfl (by decide) (by decide) (by decide) (by decide) ?_
          rintro _ _ ⟨rfl, rfl⟩
          try simp only [List.replicate_succ, List.replicate_zero, List.set_cons_zero, List.set_cons_succ, List.length_nil, List.length_cons, Nat.zero_add, Nat.reduceAdd, List.nil_append, List.cons_append]
          refine go_ifeqN e0_528 (tg := 552) (by decide) (by decide) ?_
          refine go_aload e0_531 rfl rfl ?_
          refine go_aload e0_533 rfl rfl ?_
          refine go_iload e0_535 rfl ?_
          refine go_iload e0_537 rfl ?_
          refine go_iload e0_539 rfl ?_
          refine go_iconst e0_541 (x := 4) rfl ?_
          refine go_static_6 e0_542 (wd 19 rfl) (wd 20 rfl) (wd 21 rfl) (wd 4 rfl) hy_1 pd_7 rfl (c_same1 hw (n := 5) (s1 := 2) (i := 4) (K := 3) rfl rfl (by decide) (by decide) (by decide) (by decide) (by decide) (by decide) (by decide) rfl rfl) rfl 0 rfl (by decide) (by decide) (by decide) (by decide) ?_
          rintro _ _ ⟨rfl, rfl⟩
          try simp only [List.replicate_succ, List.replicate_zero, List.set_cons_zero, List.set_cons_succ, List.length_nil, List.length_cons, Nat.zero_add, Nat.reduceAdd, List.nil_append, List.cons_append]
          refine go_ifeqN e0_545 (tg := 552) (by decide) (by decide) ?_
          refine go_iconst e0_548 (x := 1) rfl ?_
          refine go_goto e0_549 (tg := 553) (by decide) ?_
          refine go_istore_17 e0_553 rfl ?_
          refine go_iload e0_555 rfl ?_
          refine go_ifeqN e0_557 (tg := 569) (by decide) (by decide) ?_
          refine go_iload e0_560 rfl ?_
          refine go_ifeqN e0_562 (tg := 569) (by decide) (by decide) ?_
          refine go_iconst e0_565 (x := 1) rfl ?_
          refine go_goto e0_566 (tg := 570) (by decide) ?_
          refine go_zreturn e0_570 rfl (by decide) (by decide) (by decide) ?_
          exact rfl
        · intro c271
          refine go_iconst e0_274 (x := 1) rfl ?_
          refine go_goto e0_275 (tg := 279) (by decide) ?_
          refine go_istore_13 e0_279 rfl ?_
          refine go_iload e0_281 rfl ?_
          refine go_newarray e0_283 (wd 1 rfl) (k := 5) rfl (vs := [.int 0, .int 0, .int 0, .int 0, .int 0]) rfl (cap := 5) (by decide) (by decide) (by decide) (by decide) ?_
          simp only [List.replicate_succ, List.replicate_zero, List.set_cons_zero, List.set_cons_succ, List.length_nil, List.length_cons, Nat.zero_add, Nat.reduceAdd, List.nil_append, List.cons_append]
          refine go_astore_14 e0_285 rfl rfl ?_
          refine go_aload e0_287 rfl rfl ?_
          refine go_aload e0_289 rfl rfl ?_
          refine go_iload e0_291 rfl ?_
          refine go_iload e0_293 rfl ?_
          refine go_iload e0_295 rfl ?_
          refine go_iconst e0_297 (x := 0) rfl ?_
          refine go_staticV_6 e0_298 (wd 9 rfl) (wd 10 rfl) (wd 11 rfl) (wd 4 rfl) hy_1 pd_4 rfl (c_place1 hw (n := 5) (s1 := 2) (i := 0) (K := 2) rfl rfl (by decide) (by decide) (by decide) (by decide) (by decide) (by decide) (by decide) rfl (Nat.le_of_ble_eq_true rfl)) rfl 0 rfl (by decide) (by decide) (by decide) (by decide) ?_
          rintro _ rfl
          try simp only [List.replicate_succ, List.replicate_zero, List.set_cons_zero, List.set_cons_succ, List.length_nil, List.length_cons, Nat.zero_add, Nat.reduceAdd, List.nil_append, List.cons_append]
          refine go_aload e0_301 rfl rfl ?_
          refine go_aload e0_303 rfl rfl ?_
          refine go_iload e0_305 rfl ?_
          refine go_iload e0_307 rfl ?_
          refine go_iload e0_309 rfl ?_
          refine go_iconst e0_311 (x := 1) rfl ?_
          refine go_staticV_6 e0_312 (wd 9 rfl) (wd 10 rfl) (wd 11 rfl) (wd 4 rfl) hy_1 pd_4 rfl (c_place1 hw (n := 5) (s1 := 2) (i := 1) (K := 3) rfl rfl (by decide) (by decide) (by decide) (by decide) (by decide) (by decide) (by decide) rfl (Nat.le_of_ble_eq_true rfl)) rfl 0 rfl (by decide) (by decide) (by decide) (by decide) ?_
          rintro _ rfl
          try simp only [List.replicate_succ, List.replicate_zero, List.set_cons_zero, List.set_cons_succ, List.length_nil, List.length_cons, Nat.zero_add, Nat.reduceAdd, List.nil_append, List.cons_append]
          refine go_aload e0_315 rfl rfl ?_
          refine go_aload e0_317 rfl rfl ?_
          refine go_iload e0_319 rfl ?_
          refine go_iload e0_321 rfl ?_
          refine go_iload e0_323 rfl ?_
          refine go_iconst e0_325 (x := 2) rfl ?_
          refine go_staticV_6 e0_326 (wd 9 rfl) (wd 10 rfl) (wd 11 rfl) (wd 4 rfl) hy_1 pd_4 rfl (c_place1 hw (n := 5) (s1 := 2) (i := 2) (K := 4) rfl rfl (by decide) (by decide) (by decide) (by decide) (by decide) (by decide) (by decide) rfl (Nat.le_of_ble_eq_true rfl)) rfl 0 rfl (by decide) (by decide) (by decide) (by decide) ?_
          rintro _ rfl
          try simp only [List.replicate_succ, List.replicate_zero, List.set_cons_zero, List.set_cons_succ, List.length_nil, List.length_cons, Nat.zero_add, Nat.reduceAdd, List.nil_append, List.cons_append]
          refine go_aload e0_329 rfl rfl ?_
          refine go_aload e0_331 rfl rfl ?_
          refine go_iload e0_333 rfl ?_
          refine go_iload e0_335 rfl ?_
          refine go_iload e0_337 rfl ?_
          refine go_iconst e0_339 (x := 3) rfl ?_
          refine go_staticV_6 e0_340 (wd 9 rfl) (wd 10 rfl) (wd 11 rfl) (wd 4 rfl) hy_1 pd_4 rfl (c_place1 hw (n := 5) (s1 := 2) (i := 3) (K := 0) rfl rfl (by decide) (by decide) (by decide) (by decide) (by decide) (by decide) (by decide) rfl (Nat.le_of_ble_eq_true rfl)) rfl 0 rfl (by decide) (by decide) (by decide) (by decide) ?_
          rintro _ rfl
          try simp only [List.replicate_succ, List.replicate_zero, List.set_cons_zero, List.set_cons_succ, List.length_nil, List.length_cons, Nat.zero_add, Nat.reduceAdd, List.nil_append, List.cons_append]
          refine go_aload e0_343 rfl rfl ?_
          refine go_aload e0_345 rfl rfl ?_
          refine go_iload e0_347 rfl ?_
          refine go_iload e0_349 rfl ?_
          refine go_iload e0_351 rfl ?_
          refine go_iconst e0_353 (x := 4) rfl ?_
          refine go_staticV_6 e0_354 (wd 9 rfl) (wd 10 rfl) (wd 11 rfl) (wd 4 rfl) hy_1 pd_4 rfl (c_place1 hw (n := 5) (s1 := 2) (i := 4) (K := 1) rfl rfl (by decide) (by decide) (by decide) (by decide) (by decide) (by decide) (by decide) rfl (Nat.le_of_ble_eq_true rfl)) rfl 0 rfl (by decide) (by decide) (by decide) (by decide) ?_
          rintro _ rfl
          try simp only [List.replicate_succ, List.replicate_zero, List.set_cons_zero, List.set_cons_succ, List.length_nil, List.length_cons, Nat.zero_add, Nat.reduceAdd, List.nil_append, List.cons_append]
          refine go_aload e0_357 rfl rfl ?_
          refine go_static_1 e0_359 (wd 15 rfl) (wd 16 rfl) (wd 18 rfl) (wd 17 rfl) hy_5 pd_6 rfl (c_norm hw (n := 5) (st := 2) (nn := 5) (va := w1) (vb := w4) rfl rfl (by decide) (by decide) (by intro v hv; simp only [List.mem_cons, List.not_mem_nil, or_false] at hv; rcases hv with rfl | rfl | rfl | rfl | rfl <;> exact ⟨_, rfl⟩) (by decide) rfl (fun j hj => by
              have hj2 : j = 0 ∨ j = 1 := by omega
              rcases hj2 with rfl | rfl
              · exact ⟨_, rfl, n3⟩
              · exact ⟨_, rfl, n4⟩) rfl rfl) rfl 0 rfl (by decide) (by decide) (by decide) (by decide) ?_
          rintro _ _ ⟨rfl, out, rfl, hol, hout⟩
          rw [if_pos (by omega)] at hout
          have o0 : out[0]? = some (.int 0) := hout 0 (by decide)
          have o1 : out[1]? = some (.int w1) := hout 1 (by decide)
          have o2 : out[2]? = some (.int w2) := hout 2 (by decide)
          have o3 : out[3]? = some (.int w3) := hout 3 (by decide)
          have o4 : out[4]? = some (.int w4) := hout 4 (by decide)
          try simp only [List.replicate_succ, List.replicate_zero, List.set_cons_zero, List.set_cons_succ, List.length_nil, List.length_cons, Nat.zero_add, Nat.reduceAdd, List.nil_append, List.cons_append]
          refine go_astore_15 e0_362 rfl rfl ?_
          refine go_aload e0_364 rfl rfl ?_
          refine go_aload e0_366 rfl rfl ?_
          refine go_acmp e0_368 rfl rfl (same := false) (by decide) (tg := 379) (by decide) ?_
          show Go C 371 _ _ _ _ _
          refine go_aload e0_371 rfl rfl ?_
          refine go_len e0_373 rfl (n := 5) (by rw [hol]; decide) ?_
          refine go_iload e0_374 rfl ?_
          refine go_iceqY e0_376 (tg := 381) (by decide) rfl ?_
          refine go_aload e0_381 rfl rfl ?_
          refine go_aload e0_383 rfl rfl ?_
          refine go_iload e0_385 rfl ?_
          refine go_iconst e0_387 (x := 0) rfl ?_
          refine go_iconst e0_388 (x := 1) rfl ?_
          refine go_iconst e0_389 (x := 0) rfl ?_
          refine go_static_6 e0_390 (wd 19 rfl) (wd 20 rfl) (wd 21 rfl) (wd 4 rfl) hy_1 pd_7 rfl (c_same1 hw (n := 5) (s1 := 0) (i := 0) (K := 0) rfl rfl (by decide) (by decide) (by decide) (by decide) (by decide) (by decide) (by decide) rfl o0) rfl 0 rfl (by decide) (by decide) (by decide) (by decide) ?_
          rintro _ _ ⟨rfl, rfl⟩
          try simp only [List.replicate_succ, List.replicate_zero, List.set_cons_zero, List.set_cons_succ, List.length_nil, List.length_cons, Nat.zero_add, Nat.reduceAdd, List.nil_append, List.cons_append]
          refine go_ifeqN e0_393 (tg := 460) (by decide) (by decide) ?_
          refine go_aload e0_396 rfl rfl ?_
          refine go_aload e0_398 rfl rfl ?_
          refine go_iload e0_400 rfl ?_
          refine go_iconst e0_402 (x := 0) rfl ?_
          refine go_iconst e0_403 (x := 1) rfl ?_
          refine go_iconst e0_404 (x := 1) rfl ?_
          refine go_static_6 e0_405 (wd 19 rfl) (wd 20 rfl) (wd 21 rfl) (wd 4 rfl) hy_1 pd_7 rfl (c_same1 hw (n := 5) (s1 := 0) (i := 1) (K := 1) rfl rfl (by decide) (by decide) (by decide) (by decide) (by decide) (by decide) (by decide) rfl o1) rfl 0 rfl (by decide) (by decide) (by decide) (by decide) ?_
          rintro _ _ ⟨rfl, rfl⟩
          try simp only [List.replicate_succ, List.replicate_zero, List.set_cons_zero, List.set_cons_succ, List.length_nil, List.length_cons, Nat.zero_add, Nat.reduceAdd, List.nil_append, List.cons_append]
          refine go_ifeqN e0_408 (tg := 460) (by decide) (by decide) ?_
          refine go_aload e0_411 rfl rfl ?_
          refine go_aload e0_413 rfl rfl ?_
          refine go_iload e0_415 rfl ?_
          refine go_iconst e0_417 (x := 0) rfl ?_
          refine go_iconst e0_418 (x := 1) rfl ?_
          refine go_iconst e0_419 (x := 2) rfl ?_
          refine go_static_6 e0_420 (wd 19 rfl) (wd 20 rfl) (wd 21 rfl) (wd 4 rfl) hy_1 pd_7 rfl (c_same1 hw (n := 5) (s1 := 0) (i := 2) (K := 2) rfl rfl (by decide) (by decide) (by decide) (by decide) (by decide) (by decide) (by decide) rfl o2) rfl 0 rfl (by decide) (by decide) (by decide) (by decide) ?_
          rintro _ _ ⟨rfl, rfl⟩
          try simp only [List.replicate_succ, List.replicate_zero, List.set_cons_zero, List.set_cons_succ, List.length_nil, List.length_cons, Nat.zero_add, Nat.reduceAdd, List.nil_append, List.cons_append]
          refine go_ifeqN e0_423 (tg := 460) (by decide) (by decide) ?_
          refine go_aload e0_426 rfl rfl ?_
          refine go_aload e0_428 rfl rfl ?_
          refine go_iload e0_430 rfl ?_
          refine go_iconst e0_432 (x := 0) rfl ?_
          refine go_iconst e0_433 (x := 1) rfl ?_
          refine go_iconst e0_434 (x := 3) rfl ?_
          refine go_static_6 e0_435 (wd 19 rfl) (wd 20 rfl) (wd 21 rfl) (wd 4 rfl) hy_1 pd_7 rfl (c_same1 hw (n := 5) (s1 := 0) (i := 3) (K := 3) rfl rfl (by decide) (by decide) (by decide) (by decide) (by decide) (by decide) (by decide) rfl o3) rfl 0 rfl (by decide) (by decide) (by decide) (by decide) ?_
          rintro _ _ ⟨rfl, rfl⟩
          try simp only [List.replicate_succ, List.replicate_zero, List.set_cons_zero, List.set_cons_succ, List.length_nil, List.length_cons, Nat.zero_add, Nat.reduceAdd, List.nil_append, List.cons_append]
          refine go_ifeqN e0_438 (tg := 460) (by decide) (by decide) ?_
          refine go_aload e0_441 rfl rfl ?_
          refine go_aload e0_443 rfl rfl ?_
          refine go_iload e0_445 rfl ?_
          refine go_iconst e0_447 (x := 0) rfl ?_
          refine go_iconst e0_448 (x := 1) rfl ?_
          refine go_iconst e0_449 (x := 4) rfl ?_
          refine go_static_6 e0_450 (wd 19 rfl) (wd 20 rfl) (wd 21 rfl) (wd 4 rfl) hy_1 pd_7 rfl (c_same1 hw (n := 5) (s1 := 0) (i := 4) (K := 4) rfl rfl (by decide) (by decide) (by decide) (by decide) (by decide) (by decide) (by decide) rfl o4) rfl 0 rfl (by decide) (by decide) (by decide) (by decide) ?_
          rintro _ _ ⟨rfl, rfl⟩
          try simp only [List.replicate_succ, List.replicate_zero, List.set_cons_zero, List.set_cons_succ, List.length_nil, List.length_cons, Nat.zero_add, Nat.reduceAdd, List.nil_append, List.cons_append]
          refine go_ifeqN e0_453 (tg := 460) (by decide) (by decide) ?_
          refine go_iconst e0_456 (x := 1) rfl ?_
          refine go_goto e0_457 (tg := 461) (by decide) ?_
          refine go_istore_16 e0_461 rfl ?_
          refine go_aload e0_463 rfl rfl ?_
          refine go_aload e0_465 rfl rfl ?_
          refine go_iload e0_467 rfl ?_
          refine go_iload e0_469 rfl ?_
          refine go_iload e0_471 rfl ?_
          refine go_iconst e0_473 (x := 0) rfl ?_
          refine go_static_6 e0_474 (wd 19 rfl) (wd 20 rfl) (wd 21 rfl) (wd 4 rfl) hy_1 pd_7 rfl (c_same1 hw (n := 5) (s1 := 2) (i := 0) (K := 2) rfl rfl (by decide) (by decide) (by decide) (by decide) (by decide) (by decide) (by decide) rfl rfl) rfl 0 rfl (by decide) (by decide) (by decide) (by decide) ?_
          rintro _ _ ⟨rfl, rfl⟩
          try simp only [List.replicate_succ, List.replicate_zero, List.set_cons_zero, List.set_cons_succ, List.length_nil, List.length_cons, Nat.zero_add, Nat.reduceAdd, List.nil_append, List.cons_append]
          refine go_ifeqN e0_477 (tg := 552) (by decide) (by decide) ?_
          refine go_aload e0_480 rfl rfl ?_
          refine go_aload e0_482 rfl rfl ?_
          refine go_iload e0_484 rfl ?_
          refine go_iload e0_486 rfl ?_
          refine go_iload e0_488 rfl ?_
          refine go_iconst e0_490 (x := 1) rfl ?_
          refine go_static_6 e0_491 (wd 19 rfl) (wd 20 rfl) (wd 21 rfl) (wd 4 rfl) hy_1 pd_7 rfl (c_same1 hw (n := 5) (s1 := 2) (i := 1) (K := 3) rfl rfl (by decide) (by decide) (by decide) (by decide) (by decide) (by decide) (by decide) rfl rfl) rfl 0 rfl (by decide) (by decide) (by decide) (by decide) ?_
          rintro _ _ ⟨rfl, rfl⟩
          try simp only [List.replicate_succ, List.replicate_zero, List.set_cons_zero, List.set_cons_succ, List.length_nil, List.length_cons, Nat.zero_add, Nat.reduceAdd, List.nil_append, List.cons_append]
          refine go_ifeqN e0_494 (tg := 552) (by decide) (by decide) ?_
          refine go_aload e0_497 rfl rfl ?_
          refine go_aload e0_499 rfl rfl ?_
          refine go_iload e0_501 rfl ?_
          refine go_iload e0_503 rfl ?_
          refine go_iload e0_505 rfl ?_
          refine go_iconst e0_507 (x := 2) rfl ?_
          refine go_static_6 e0_508 (wd 19 rfl) (wd 20 rfl) (wd 21 rfl) (wd 4 rfl) hy_1 pd_7 rfl (c_same1 hw (n := 5) (s1 := 2) (i := 2) (K := 4) rfl rfl (by decide) (by decide) (by decide) (by decide) (by decide) (by decide) (by decide) rfl rfl) rfl 0 rfl (by decide) (by decide) (by decide) (by decide) ?_
          rintro _ _ ⟨rfl, rfl⟩
          try simp only [List.replicate_succ, List.replicate_zero, List.set_cons_zero, List.set_cons_succ, List.length_nil, List.length_cons, Nat.zero_add, Nat.reduceAdd, List.nil_append, List.cons_append]
          refine go_ifeqN e0_511 (tg := 552) (by decide) (by decide) ?_
          refine go_aload e0_514 rfl rfl ?_
          refine go_aload e0_516 rfl rfl ?_
          refine go_iload e0_518 rfl ?_
          refine go_iload e0_520 rfl ?_
          refine go_iload e0_522 rfl ?_
          refine go_iconst e0_524 (x := 3) rfl ?_
          refine go_static_6 e0_525 (wd 19 rfl) (wd 20 rfl) (wd 21 rfl) (wd 4 rfl) hy_1 pd_7 rfl (c_same1 hw (n := 5) (s1 := 2) (i := 3) (K := 0) rfl rfl (by decide) (by decide) (by decide) (by decide) (by decide) (by decide) (by decide) rfl rfl) rfl 0 rfl (by decide) (by decide) (by decide) (by decide) ?_
          rintro _ _ ⟨rfl, rfl⟩
          try simp only [List.replicate_succ, List.replicate_zero, List.set_cons_zero, List.set_cons_succ, List.length_nil, List.length_cons, Nat.zero_add, Nat.reduceAdd, List.nil_append, List.cons_append]
          refine go_ifeqN e0_528 (tg := 552) (by decide) (by decide) ?_
          refine go_aload e0_531 rfl rfl ?_
          refine go_aload e0_533 rfl rfl ?_
          refine go_iload e0_535 rfl ?_
          refine go_iload e0_537 rfl ?_
          refine go_iload e0_539 rfl ?_
          refine go_iconst e0_541 (x := 4) rfl ?_
          refine go_static_6 e0_542 (wd 19 rfl) (wd 20 rfl) (wd 21 rfl) (wd 4 rfl) hy_1 pd_7 rfl (c_same1 hw (n := 5) (s1 := 2) (i := 4) (K := 1) rfl rfl (by decide) (by decide) (by decide) (by decide) (by decide) (by decide) (by decide) rfl rfl) rfl 0 rfl (by decide) (by decide) (by decide) (by decide) ?_
          rintro _ _ ⟨rfl, rfl⟩
          try simp only [List.replicate_succ, List.replicate_zero, List.set_cons_zero, List.set_cons_succ, List.length_nil, List.length_cons, Nat.zero_add, Nat.reduceAdd, List.nil_append, List.cons_append]
          refine go_ifeqN e0_545 (tg := 552) (by decide) (by decide) ?_
          refine go_iconst e0_548 (x := 1) rfl ?_
          refine go_goto e0_549 (tg := 553) (by decide) ?_
          refine go_istore_17 e0_553 rfl ?_
          refine go_iload e0_555 rfl ?_
          refine go_ifeqN e0_557 (tg := 569) (by decide) (by decide) ?_
          refine go_iload e0_560 rfl ?_
          refine go_ifeqN e0_562 (tg := 569) (by decide) (by decide) ?_
          refine go_iconst e0_565 (x := 1) rfl ?_
          refine go_goto e0_566 (tg := 570) (by decide) ?_
          refine go_zreturn e0_570 rfl (by decide) (by decide) (by decide) ?_
          exact rfl
      · refine go_iloadN e0_268 rfl ?_
        refine go_iconst e0_269 (x := 1) rfl ?_
        refine go_iand e0_270 ?_
        refine go_ifeq e0_271 (tg := 278) (by decide) ?_ ?_
        · intro c271
          refine go_iconst e0_278 (x := 0) rfl ?_
          refine go_istore_13 e0_279 rfl ?_
          refine go_iload e0_281 rfl ?_
          refine go_newarray e0_283 (wd 1 rfl) (k := 5) rfl (vs := [.int 0, .int 0, .int 0, .int 0, .int 0]) rfl (cap := 5) (by decide) (by decide) (by decide) (by decide) ?_
          simp only [List.replicate_succ, List.replicate_zero, List.set_cons_zero, List.set_cons_succ, List.length_nil, List.length_cons, Nat.zero_add, Nat.reduceAdd, List.nil_append, List.cons_append]
          refine go_astore_14 e0_285 rfl rfl ?_
          refine go_aload e0_287 rfl rfl ?_
          refine go_aload e0_289 rfl rfl ?_
          refine go_iload e0_291 rfl ?_
          refine go_iload e0_293 rfl ?_
          refine go_iload e0_295 rfl ?_
          refine go_iconst e0_297 (x := 0) rfl ?_
          refine go_staticV_6 e0_298 (wd 9 rfl) (wd 10 rfl) (wd 11 rfl) (wd 4 rfl) hy_1 pd_4 rfl (c_place1 hw (n := 5) (s1 := 3) (i := 0) (K := 3) rfl rfl (by decide) (by decide) (by decide) (by decide) (by decide) (by decide) (by decide) rfl (Nat.le_of_ble_eq_true rfl)) rfl 0 rfl (by decide) (by decide) (by decide) (by decide) ?_
          rintro _ rfl
          try simp only [List.replicate_succ, List.replicate_zero, List.set_cons_zero, List.set_cons_succ, List.length_nil, List.length_cons, Nat.zero_add, Nat.reduceAdd, List.nil_append, List.cons_append]
          refine go_aload e0_301 rfl rfl ?_
          refine go_aload e0_303 rfl rfl ?_
          refine go_iload e0_305 rfl ?_
          refine go_iload e0_307 rfl ?_
          refine go_iload e0_309 rfl ?_
          refine go_iconst e0_311 (x := 1) rfl ?_
          refine go_staticV_6 e0_312 (wd 9 rfl) (wd 10 rfl) (wd 11 rfl) (wd 4 rfl) hy_1 pd_4 rfl (c_place1 hw (n := 5) (s1 := 3) (i := 1) (K := 2) rfl rfl (by decide) (by decide) (by decide) (by decide) (by decide) (by decide) (by decide) rfl (Nat.le_of_ble_eq_true rfl)) rfl 0 rfl (by decide) (by decide) (by decide) (by decide) ?_
          rintro _ rfl
          try simp only [List.replicate_succ, List.replicate_zero, List.set_cons_zero, List.set_cons_succ, List.length_nil, List.length_cons, Nat.zero_add, Nat.reduceAdd, List.nil_append, List.cons_append]
          refine go_aload e0_315 rfl rfl ?_
          refine go_aload e0_317 rfl rfl ?_
          refine go_iload e0_319 rfl ?_
          refine go_iload e0_321 rfl ?_
          refine go_iload e0_323 rfl ?_
          refine go_iconst e0_325 (x := 2) rfl ?_
          refine go_staticV_6 e0_326 (wd 9 rfl) (wd 10 rfl) (wd 11 rfl) (wd 4 rfl) hy_1 pd_4 rfl (c_place1 hw (n := 5) (s1 := 3) (i := 2) (K := 1) rfl rfl (by decide) (by decide) (by decide) (by decide) (by decide) (by decide) (by decide) rfl (Nat.le_of_ble_eq_true rfl)) rfl 0 rfl (by decide) (by decide) (by decide) (by decide) ?_
          rintro _ rfl
          try simp only [List.replicate_succ, List.replicate_zero, List.set_cons_zero, List.set_cons_succ, List.length_nil, List.length_cons, Nat.zero_add, Nat.reduceAdd, List.nil_append, List.cons_append]
          refine go_aload e0_329 rfl rfl ?_
          refine go_aload e0_331 rfl rfl ?_
          refine go_iload e0_333 rfl ?_
          refine go_iload e0_335 rfl ?_
          refine go_iload e0_337 rfl ?_
          refine go_iconst e0_339 (x := 3) rfl ?_
          refine go_staticV_6 e0_340 (wd 9 rfl) (wd 10 rfl) (wd 11 rfl) (wd 4 rfl) hy_1 pd_4 rfl (c_place1 hw (n := 5) (s1 := 3) (i := 3) (K := 0) rfl rfl (by decide) (by decide) (by decide) (by decide) (by decide) (by decide) (by decide) rfl (Nat.le_of_ble_eq_true rfl)) rfl 0 rfl (by decide) (by decide) (by decide) (by decide) ?_
          rintro _ rfl
          try simp only [List.replicate_succ, List.replicate_zero, List.set_cons_zero, List.set_cons_succ, List.length_nil, List.length_cons, Nat.zero_add, Nat.reduceAdd, List.nil_append, List.cons_append]
          refine go_aload e0_343 rfl rfl ?_
          refine go_aload e0_345 rfl rfl ?_
          refine go_iload e0_347 rfl ?_
          refine go_iload e0_349 rfl ?_
          refine go_iload e0_351 rfl ?_
          refine go_iconst e0_353 (x := 4) rfl ?_
          refine go_staticV_6 e0_354 (wd 9 rfl) (wd 10 rfl) (wd 11 rfl) (wd 4 rfl) hy_1 pd_4 rfl (c_place1 hw (n := 5) (s1 := 3) (i := 4) (K := 4) rfl rfl (by decide) (by decide) (by decide) (by decide) (by decide) (by decide) (by decide) rfl (Nat.le_of_ble_eq_true rfl)) rfl 0 rfl (by decide) (by decide) (by decide) (by decide) ?_
          rintro _ rfl
          try simp only [List.replicate_succ, List.replicate_zero, List.set_cons_zero, List.set_cons_succ, List.length_nil, List.length_cons, Nat.zero_add, Nat.reduceAdd, List.nil_append, List.cons_append]
          refine go_aload e0_357 rfl rfl ?_
          refine go_static_1 e0_359 (wd 15 rfl) (wd 16 rfl) (wd 18 rfl) (wd 17 rfl) hy_5 pd_6 rfl (c_norm hw (n := 5) (st := 3) (nn := 5) (va := w4) (vb := w1) rfl rfl (by decide) (by decide) (by intro v hv; simp only [List.mem_cons, List.not_mem_nil, or_false] at hv; rcases hv with rfl | rfl | rfl | rfl | rfl <;> exact ⟨_, rfl⟩) (by decide) rfl (fun j hj => by
              have hj2 : j = 0 ∨ j = 1 ∨ j = 2 := by omega
              rcases hj2 with rfl | rfl | rfl
              · exact ⟨_, rfl, n3⟩
              · exact ⟨_, rfl, n2⟩
              · exact ⟨_, rfl, n1⟩) rfl rfl) rfl 0 rfl (by decide) (by decide) (by decide) (by decide) ?_
          rintro _ _ ⟨rfl, out, rfl, hol, hout⟩
          rw [if_neg (by omega)] at hout
          have o0 : out[0]? = some (.int 0) := hout 0 (by decide)
          have o1 : out[1]? = some (.int w1) := hout 1 (by decide)
          have o2 : out[2]? = some (.int w2) := hout 2 (by decide)
          have o3 : out[3]? = some (.int w3) := hout 3 (by decide)
          have o4 : out[4]? = some (.int w4) := hout 4 (by decide)
          try simp only [List.replicate_succ, List.replicate_zero, List.set_cons_zero, List.set_cons_succ, List.length_nil, List.length_cons, Nat.zero_add, Nat.reduceAdd, List.nil_append, List.cons_append]
          refine go_astore_15 e0_362 rfl rfl ?_
          refine go_aload e0_364 rfl rfl ?_
          refine go_aload e0_366 rfl rfl ?_
          refine go_acmp e0_368 rfl rfl (same := false) (by decide) (tg := 379) (by decide) ?_
          show Go C 371 _ _ _ _ _
          refine go_aload e0_371 rfl rfl ?_
          refine go_len e0_373 rfl (n := 5) (by rw [hol]; decide) ?_
          refine go_iload e0_374 rfl ?_
          refine go_iceqY e0_376 (tg := 381) (by decide) rfl ?_
          refine go_aload e0_381 rfl rfl ?_
          refine go_aload e0_383 rfl rfl ?_
          refine go_iload e0_385 rfl ?_
          refine go_iconst e0_387 (x := 0) rfl ?_
          refine go_iconst e0_388 (x := 1) rfl ?_
          refine go_iconst e0_389 (x := 0) rfl ?_
          refine go_static_6 e0_390 (wd 19 rfl) (wd 20 rfl) (wd 21 rfl) (wd 4 rfl) hy_1 pd_7 rfl (c_same1 hw (n := 5) (s1 := 0) (i := 0) (K := 0) rfl rfl (by decide) (by decide) (by decide) (by decide) (by decide) (by decide) (by decide) rfl o0) rfl 0 rfl (by decide) (by decide) (by decide) (by decide) ?_
          rintro _ _ ⟨rfl, rfl⟩
          try simp only [List.replicate_succ, List.replicate_zero, List.set_cons_zero, List.set_cons_succ, List.length_nil, List.length_cons, Nat.zero_add, Nat.reduceAdd, List.nil_append, List.cons_append]
          refine go_ifeqN e0_393 (tg := 460) (by decide) (by decide) ?_
          refine go_aload e0_396 rfl rfl ?_
          refine go_aload e0_398 rfl rfl ?_
          refine go_iload e0_400 rfl ?_
          refine go_iconst e0_402 (x := 0) rfl ?_
          refine go_iconst e0_403 (x := 1) rfl ?_
          refine go_iconst e0_404 (x := 1) rfl ?_
          refine go_static_6 e0_405 (wd 19 rfl) (wd 20 rfl) (wd 21 rfl) (wd 4 rfl) hy_1 pd_7 rfl (c_same1 hw (n := 5) (s1 := 0) (i := 1) (K := 1) rfl rfl (by decide) (by decide) (by decide) (by decide) (by decide) (by decide) (by decide) rfl o1) rfl 0 rfl (by decide) (by decide) (by decide) (by decide) ?_
          rintro _ _ ⟨rfl, rfl⟩
          try simp only [List.replicate_succ, List.replicate_zero, List.set_cons_zero, List.set_cons_succ, List.length_nil, List.length_cons, Nat.zero_add, Nat.reduceAdd, List.nil_append, List.cons_append]
          refine go_ifeqN e0_408 (tg := 460) (by decide) (by decide) ?_
          refine go_aload e0_411 rfl rfl ?_
          refine go_aload e0_413 rfl rfl ?_
          refine go_iload e0_415 rfl ?_
          refine go_iconst e0_417 (x := 0) rfl ?_
          refine go_iconst e0_418 (x := 1) rfl ?_
          refine go_iconst e0_419 (x := 2) rfl ?_
          refine go_static_6 e0_420 (wd 19 rfl) (wd 20 rfl) (wd 21 rfl) (wd 4 rfl) hy_1 pd_7 rfl (c_same1 hw (n := 5) (s1 := 0) (i := 2) (K := 2) rfl rfl (by decide) (by decide) (by decide) (by decide) (by decide) (by decide) (by decide) rfl o2) rfl 0 rfl (by decide) (by decide) (by decide) (by decide) ?_
          rintro _ _ ⟨rfl, rfl⟩
          try simp only [List.replicate_succ, List.replicate_zero, List.set_cons_zero, List.set_cons_succ, List.length_nil, List.length_cons, Nat.zero_add, Nat.reduceAdd, List.nil_append, List.cons_append]
          refine go_ifeqN e0_423 (tg := 460) (by decide) (by decide) ?_
          refine go_aload e0_426 rfl rfl ?_
          refine go_aload e0_428 rfl rfl ?_
          refine go_iload e0_430 rfl ?_
          refine go_iconst e0_432 (x := 0) rfl ?_
          refine go_iconst e0_433 (x := 1) rfl ?_
          refine go_iconst e0_434 (x := 3) rfl ?_
          refine go_static_6 e0_435 (wd 19 rfl) (wd 20 rfl) (wd 21 rfl) (wd 4 rfl) hy_1 pd_7 rfl (c_same1 hw (n := 5) (s1 := 0) (i := 3) (K := 3) rfl rfl (by decide) (by decide) (by decide) (by decide) (by decide) (by decide) (by decide) rfl o3) rfl 0 rfl (by decide) (by decide) (by decide) (by decide) ?_
          rintro _ _ ⟨rfl, rfl⟩
          try simp only [List.replicate_succ, List.replicate_zero, List.set_cons_zero, List.set_cons_succ, List.length_nil, List.length_cons, Nat.zero_add, Nat.reduceAdd, List.nil_append, List.cons_append]
          refine go_ifeqN e0_438 (tg := 460) (by decide) (by decide) ?_
          refine go_aload e0_441 rfl rfl ?_
          refine go_aload e0_443 rfl rfl ?_
          refine go_iload e0_445 rfl ?_
          refine go_iconst e0_447 (x := 0) rfl ?_
          refine go_iconst e0_448 (x := 1) rfl ?_
          refine go_iconst e0_449 (x := 4) rfl ?_
          refine go_static_6 e0_450 (wd 19 rfl) (wd 20 rfl) (wd 21 rfl) (wd 4 rfl) hy_1 pd_7 rfl (c_same1 hw (n := 5) (s1 := 0) (i := 4) (K := 4) rfl rfl (by decide) (by decide) (by decide) (by decide) (by decide) (by decide) (by decide) rfl o4) rfl 0 rfl (by decide) (by decide) (by decide) (by decide) ?_
          rintro _ _ ⟨rfl, rfl⟩
          try simp only [List.replicate_succ, List.replicate_zero, List.set_cons_zero, List.set_cons_succ, List.length_nil, List.length_cons, Nat.zero_add, Nat.reduceAdd, List.nil_append, List.cons_append]
          refine go_ifeqN e0_453 (tg := 460) (by decide) (by decide) ?_
          refine go_iconst e0_456 (x := 1) rfl ?_
          refine go_goto e0_457 (tg := 461) (by decide) ?_
          refine go_istore_16 e0_461 rfl ?_
          refine go_aload e0_463 rfl rfl ?_
          refine go_aload e0_465 rfl rfl ?_
          refine go_iload e0_467 rfl ?_
          refine go_iload e0_469 rfl ?_
          refine go_iload e0_471 rfl ?_
          refine go_iconst e0_473 (x := 0) rfl ?_
          refine go_static_6 e0_474 (wd 19 rfl) (wd 20 rfl) (wd 21 rfl) (wd 4 rfl) hy_1 pd_7 rfl (c_same1 hw (n := 5) (s1 := 3) (i := 0) (K := 3) rfl rfl (by decide) (by decide) (by decide) (by decide) (by decide) (by decide) (by decide) rfl rfl) rfl 0 rfl (by decide) (by decide) (by decide) (by decide) ?_
          rintro _ _ ⟨rfl, rfl⟩
          try simp only [List.replicate_succ, List.replicate_zero, List.set_cons_zero, List.set_cons_succ, List.length_nil, List.length_cons, Nat.zero_add, Nat.reduceAdd, List.nil_append, List.cons_append]
          refine go_ifeqN e0_477 (tg := 552) (by decide) (by decide) ?_
          refine go_aload e0_480 rfl rfl ?_
          refine go_aload e0_482 rfl rfl ?_
          refine go_iload e0_484 rfl ?_
          refine go_iload e0_486 rfl ?_
          refine go_iload e0_488 rfl ?_
          refine go_iconst e0_490 (x := 1) rfl ?_
          refine go_static_6 e0_491 (wd 19 rfl) (wd 20 rfl) (wd 21 rfl) (wd 4 rfl) hy_1 pd_7 rfl (c_same1 hw (n := 5) (s1 := 3) (i := 1) (K := 2) rfl rfl (by decide) (by decide) (by decide) (by decide) (by decide) (by decide) (by decide) rfl rfl) rfl 0 rfl (by decide) (by decide) (by decide) (by decide) ?_
          rintro _ _ ⟨rfl, rfl⟩
          try simp only [List.replicate_succ, List.replicate_zero, List.set_cons_zero, List.set_cons_succ, List.length_nil, List.length_cons, Nat.zero_add, Nat.reduceAdd, List.nil_append, List.cons_append]
          refine go_ifeqN e0_494 (tg := 552) (by decide) (by decide) ?_
          refine go_aload e0_497 rfl rfl ?_
          refine go_aload e0_499 rfl rfl ?_
          refine go_iload e0_501 rfl ?_
          refine go_iload e0_503 rfl ?_
          refine go_iload e0_505 rfl ?_
          refine go_iconst e0_507 (x := 2) rfl ?_
          refine go_static_6 e0_508 (wd 19 rfl) (wd 20 rfl) (wd 21 rfl) (wd 4 rfl) hy_1 pd_7 rfl (c_same1 hw (n := 5) (s1 := 3) (i := 2) (K := 1) rfl rfl (by decide) (by decide) (by decide) (by decide) (by decide) (by decide) (by decide) rfl rfl) rfl 0 rfl (by decide) (by decide) (by decide) (by decide) ?_
          rintro _ _ ⟨rfl, rfl⟩
          try simp only [List.replicate_succ, List.replicate_zero, List.set_cons_zero, List.set_cons_succ, List.length_nil, List.length_cons, Nat.zero_add, Nat.reduceAdd, List.nil_append, List.cons_append]
          refine go_ifeqN e0_511 (tg := 552) (by decide) (by decide) ?_
          refine go_aload e0_514 rfl rfl ?_
          refine go_aload e0_516 rfl rfl ?_
          refine go_iload e0_518 rfl ?_
          refine go_iload e0_520 rfl ?_
          refine go_iload e0_522 rfl ?_
          refine go_iconst e0_524 (x := 3) rfl ?_
          refine go_static_6 e0_525 (wd 19 rfl) (wd 20 rfl) (wd 21 rfl) (wd 4 rfl) hy_1 pd_7 rfl (c_same1 hw (n := 5) (s1 := 3) (i := 3) (K := 0) rfl rfl (by decide) (by decide) (by decide) (by decide) (by decide) (by decide) (by decide) rfl rfl) rfl 0 rfl (by decide) (by decide) (by decide) (by decide) ?_
          rintro _ _ ⟨rfl, rfl⟩
          try simp only [List.replicate_succ, List.replicate_zero, List.set_cons_zero, List.set_cons_succ, List.length_nil, List.length_cons, Nat.zero_add, Nat.reduceAdd, List.nil_append, List.cons_append]
          refine go_ifeqN e0_528 (tg := 552) (by decide) (by decide) ?_
          refine go_aload e0_531 rfl rfl ?_
          refine go_aload e0_533 rfl rfl ?_
          refine go_iload e0_535 rfl ?_
          refine go_iload e0_537 rfl ?_
          refine go_iload e0_539 rfl ?_
          refine go_iconst e0_541 (x := 4) rfl ?_
          refine go_static_6 e0_542 (wd 19 rfl) (wd 20 rfl) (wd 21 rfl) (wd 4 rfl) hy_1 pd_7 rfl (c_same1 hw (n := 5) (s1 := 3) (i := 4) (K := 4) rfl rfl (by decide) (by decide) (by decide) (by decide) (by decide) (by decide) (by decide) rfl rfl) rfl 0 rfl (by decide) (by decide) (by decide) (by decide) ?_
          rintro _ _ ⟨rfl, rfl⟩
          try simp only [List.replicate_succ, List.replicate_zero, List.set_cons_zero, List.set_cons_succ, List.length_nil, List.length_cons, Nat.zero_add, Nat.reduceAdd, List.nil_append, List.cons_append]
          refine go_ifeqN e0_545 (tg := 552) (by decide) (by decide) ?_
          refine go_iconst e0_548 (x := 1) rfl ?_
          refine go_goto e0_549 (tg := 553) (by decide) ?_
          refine go_istore_17 e0_553 rfl ?_
          refine go_iload e0_555 rfl ?_
          refine go_ifeqN e0_557 (tg := 569) (by decide) (by decide) ?_
          refine go_iload e0_560 rfl ?_
          refine go_ifeqN e0_562 (tg := 569) (by decide) (by decide) ?_
          refine go_iconst e0_565 (x := 1) rfl ?_
          refine go_goto e0_566 (tg := 570) (by decide) ?_
          refine go_zreturn e0_570 rfl (by decide) (by decide) (by decide) ?_
          exact rfl
        · intro c271
          refine go_iconst e0_274 (x := 1) rfl ?_
          refine go_goto e0_275 (tg := 279) (by decide) ?_
          refine go_istore_13 e0_279 rfl ?_
          refine go_iload e0_281 rfl ?_
          refine go_newarray e0_283 (wd 1 rfl) (k := 5) rfl (vs := [.int 0, .int 0, .int 0, .int 0, .int 0]) rfl (cap := 5) (by decide) (by decide) (by decide) (by decide) ?_
          simp only [List.replicate_succ, List.replicate_zero, List.set_cons_zero, List.set_cons_succ, List.length_nil, List.length_cons, Nat.zero_add, Nat.reduceAdd, List.nil_append, List.cons_append]
          refine go_astore_14 e0_285 rfl rfl ?_
          refine go_aload e0_287 rfl rfl ?_
          refine go_aload e0_289 rfl rfl ?_
          refine go_iload e0_291 rfl ?_
          refine go_iload e0_293 rfl ?_
          refine go_iload e0_295 rfl ?_
          refine go_iconst e0_297 (x := 0) rfl ?_
          refine go_staticV_6 e0_298 (wd 9 rfl) (wd 10 rfl) (wd 11 rfl) (wd 4 rfl) hy_1 pd_4 rfl (c_place1 hw (n := 5) (s1 := 3) (i := 0) (K := 3) rfl rfl (by decide) (by decide) (by decide) (by decide) (by decide) (by decide) (by decide) rfl (Nat.le_of_ble_eq_true rfl)) rfl 0 rfl (by decide) (by decide) (by decide) (by decide) ?_
          rintro _ rfl
          try simp only [List.replicate_succ, List.replicate_zero, List.set_cons_zero, List.set_cons_succ, List.length_nil, List.length_cons, Nat.zero_add, Nat.reduceAdd, List.nil_append, List.cons_append]
          refine go_aload e0_301 rfl rfl ?_
          refine go_aload e0_303 rfl rfl ?_
          refine go_iload e0_305 rfl ?_
          refine go_iload e0_307 rfl ?_
          refine go_iload e0_309 rfl ?_
          refine go_iconst e0_311 (x := 1) rfl ?_
          refine go_staticV_6 e0_312 (wd 9 rfl) (wd 10 rfl) (wd 11 rfl) (wd 4 rfl) hy_1 pd_4 rfl (c_place1 hw (n := 5) (s1 := 3) (i := 1) (K := 4) rfl rfl (by decide) (by decide) (by decide) (by decide) (by decide) (by decide) (by decide) rfl (Nat.le_of_ble_eq_true rfl)) rfl 0 rfl (by decide) (by decide) (by decide) (by decide) ?_
          rintro _ rfl
          try simp only [List.replicate_succ, List.replicate_zero, List.set_cons_zero, List.set_cons_succ, List.length_nil, List.length_cons, Nat.zero_add, Nat.reduceAdd, List.nil_append, List.cons_append]
          refine go_aload e0_315 rfl rfl ?_
          refine go_aload e0_317 rfl rfl ?_
          refine go_iload e0_319 rfl ?_
          refine go_iload e0_321 rfl ?_
          refine go_iload e0_323 rfl ?_
          refine go_iconst e0_325 (x := 2) rfl ?_
          refine go_staticV_6 e0_326 (wd 9 rfl) (wd 10 rfl) (wd 11 rfl) (wd 4 rfl) hy_1 pd_4 rfl (c_place1 hw (n := 5) (s1 := 3) (i := 2) (K := 0) rfl rfl (by decide) (by decide) (by decide) (by decide) (by decide) (by decide) (by decide) rfl (Nat.le_of_ble_eq_true rfl)) rfl 0 rfl (by decide) (by decide) (by decide) (by decide) ?_
          rintro _ rfl
          try simp only [List.replicate_succ, List.replicate_zero, List.set_cons_zero, List.set_cons_succ, List.length_nil, List.length_cons, Nat.zero_add, Nat.reduceAdd, List.nil_append, List.cons_append]
          refine go_aload e0_329 rfl rfl ?_
          refine go_aload e0_331 rfl rfl ?_
          refine go_iload e0_333 rfl ?_
          refine go_iload e0_335 rfl ?_
          refine go_iload e0_337 rfl ?_
          refine go_iconst e0_339 (x := 3) rfl ?_
          refine go_staticV_6 e0_340 (wd 9 rfl) (wd 10 rfl) (wd 11 rfl) (wd 4 rfl) hy_1 pd_4 rfl (c_place1 hw (n := 5) (s1 := 3) (i := 3) (K := 1) rfl rfl (by decide) (by decide) (by decide) (by decide) (by decide) (by decide) (by decide) rfl (Nat.le_of_ble_eq_true rfl)) rfl 0 rfl (by decide) (by decide) (by decide) (by decide) ?_
          rintro _ rfl
          try simp only [List.replicate_succ, List.replicate_zero, List.set_cons_zero, List.set_cons_succ, List.length_nil, List.length_cons, Nat.zero_add, Nat.reduceAdd, List.nil_append, List.cons_append]
          refine go_aload e0_343 rfl rfl ?_
          refine go_aload e0_345 rfl rfl ?_
          refine go_iload e0_347 rfl ?_
          refine go_iload e0_349 rfl ?_
          refine go_iload e0_351 rfl ?_
          refine go_iconst e0_353 (x := 4) rfl ?_
          refine go_staticV_6 e0_354 (wd 9 rfl) (wd 10 rfl) (wd 11 rfl) (wd 4 rfl) hy_1 pd_4 rfl (c_place1 hw (n := 5) (s1 := 3) (i := 4) (K := 2) rfl rfl (by decide) (by decide) (by decide) (by decide) (by decide) (by decide) (by decide) rfl (Nat.le_of_ble_eq_true rfl)) rfl 0 rfl (by decide) (by decide) (by decide) (by decide) ?_
          rintro _ rfl
          try simp only [List.replicate_succ, List.replicate_zero, List.set_cons_zero, List.set_cons_succ, List.length_nil, List.length_cons, Nat.zero_add, Nat.reduceAdd, List.nil_append, List.cons_append]
          refine go_aload e0_357 rfl rfl ?_
          refine go_static_1 e0_359 (wd 15 rfl) (wd 16 rfl) (wd 18 rfl) (wd 17 rfl) hy_5 pd_6 rfl (c_norm hw (n := 5) (st := 3) (nn := 5) (va := w1) (vb := w4) rfl rfl (by decide) (by decide) (by intro v hv; simp only [List.mem_cons, List.not_mem_nil, or_false] at hv; rcases hv with rfl | rfl | rfl | rfl | rfl <;> exact ⟨_, rfl⟩) (by decide) rfl (fun j hj => by
              have hj2 : j = 0 ∨ j = 1 ∨ j = 2 := by omega
              rcases hj2 with rfl | rfl | rfl
              · exact ⟨_, rfl, n2⟩
              · exact ⟨_, rfl, n3⟩
              · exact ⟨_, rfl, n4⟩) rfl rfl) rfl 0 rfl (by decide) (by decide) (by decide) (by decide) ?_
          rintro _ _ ⟨rfl, out, rfl, hol, hout⟩
          rw [if_pos (by omega)] at hout
          have o0 : out[0]? = some (.int 0) := hout 0 (by decide)
          have o1 : out[1]? = some (.int w1) := hout 1 (by decide)
          have o2 : out[2]? = some (.int w2) := hout 2 (by decide)
          have o3 : out[3]? = some (.int w3) := hout 3 (by decide)
          have o4 : out[4]? = some (.int w4) := hout 4 (by decide)
          try simp only [List.replicate_succ, List.replicate_zero, List.set_cons_zero, List.set_cons_succ, List.length_nil, List.length_cons, Nat.zero_add, Nat.reduceAdd, List.nil_append, List.cons_append]
          refine go_astore_15 e0_362 rfl rfl ?_
          refine go_aload e0_364 rfl rfl ?_
          refine go_aload e0_366 rfl rfl ?_
          refine go_acmp e0_368 rfl rfl (same := false) (by decide) (tg := 379) (by decide) ?_
          show Go C 371 _ _ _ _ _
          refine go_aload e0_371 rfl rfl ?_
          refine go_len e0_373 rfl (n := 5) (by rw [hol]; decide) ?_
          refine go_iload e0_374 rfl ?_
          refine go_iceqY e0_376 (tg := 381) (by decide) rfl ?_
          refine go_aload e0_381 rfl rfl ?_
          refine go_aload e0_383 rfl rfl ?_
          refine go_iload e0_385 rfl ?_
          refine go_iconst e0_387 (x := 0) rfl ?_
          refine go_iconst e0_388 (x := 1) rfl ?_
          refine go_iconst e0_389 (x := 0) rfl ?_
          refine go_static_6 e0_390 (wd 19 rfl) (wd 20 rfl) (wd 21 rfl) (wd 4 rfl) hy_1 pd_7 rfl (c_same1 hw (n := 5) (s1 := 0) (i := 0) (K := 0) rfl rfl (by decide) (by decide) (by decide) (by decide) (by decide) (by decide) (by decide) rfl o0) rfl 0 rfl (by decide) (by decide) (by decide) (by decide) ?_
          rintro _ _ ⟨rfl, rfl⟩
          try simp only [List.replicate_succ, List.replicate_zero, List.set_cons_zero, List.set_cons_succ, List.length_nil, List.length_cons, Nat.zero_add, Nat.reduceAdd, List.nil_append, List.cons_append]
          refine go_ifeqN e0_393 (tg := 460) (by decide) (by decide) ?_
          refine go_aload e0_396 rfl rfl ?_
          refine go_aload e0_398 rfl rfl ?_
          refine go_iload e0_400 rfl ?_
          refine go_iconst e0_402 (x := 0) rfl ?_
          refine go_iconst e0_403 (x := 1) rfl ?_
          refine go_iconst e0_404 (x := 1) rfl ?_
          refine go_static_6 e0_405 (wd 19 rfl) (wd 20 rfl) (wd 21 rfl) (wd 4 rfl) hy_1 pd_7 rfl (c_same1 hw (n := 5) (s1 := 0) (i := 1) (K := 1) rfl rfl (by decide) (by decide) (by decide) (by decide) (by decide) (by decide) (by decide) rfl o1) rfl 0 rfl (by decide) (by decide) (by decide) (by decide) ?_
          rintro _ _ ⟨rfl, rfl⟩
          try simp only [List.replicate_succ, List.replicate_zero, List.set_cons_zero, List.set_cons_succ, List.length_nil, List.length_cons, Nat.zero_add, Nat.reduceAdd, List.nil_append, List.cons_append]
          refine go_ifeqN e0_408 (tg := 460) (by decide) (by decide) ?_
          refine go_aload e0_411 rfl rfl ?_
          refine go_aload e0_413 rfl rfl ?_
          refine go_iload e0_415 rfl ?_
          refine go_iconst e0_417 (x := 0) rfl ?_
          refine go_iconst e0_418 (x := 1) rfl ?_
          refine go_iconst e0_419 (x := 2) rfl ?_
          refine go_static_6 e0_420 (wd 19 rfl) (wd 20 rfl) (wd 21 rfl) (wd 4 rfl) hy_1 pd_7 rfl (c_same1 hw (n := 5) (s1 := 0) (i := 2) (K := 2) rfl rfl (by decide) (by decide) (by decide) (by decide) (by decide) (by decide) (by decide) rfl o2) rfl 0 rfl (by decide) (by decide) (by decide) (by decide) ?_
          rintro _ _ ⟨rfl, rfl⟩
          try simp only [List.replicate_succ, List.replicate_zero, List.set_cons_zero, List.set_cons_succ, List.length_nil, List.length_cons, Nat.zero_add, Nat.reduceAdd, List.nil_append, List.cons_append]
          refine go_ifeqN e0_423 (tg := 460) (by decide) (by decide) ?_
          refine go_aload e0_426 rfl rfl ?_
          refine go_aload e0_428 rfl rfl ?_
          refine go_iload e0_430 rfl ?_
          refine go_iconst e0_432 (x := 0) rfl ?_
          refine go_iconst e0_433 (x := 1) rfl ?_
          refine go_iconst e0_434 (x := 3) rfl ?_
          refine go_static_6 e0_435 (wd 19 rfl) (wd 20 rfl) (wd 21 rfl) (wd 4 rfl) hy_1 pd_7 rfl (c_same1 hw (n := 5) (s1 := 0) (i := 3) (K := 3) rfl rfl (by decide) (by decide) (by decide) (by decide) (by decide) (by decide) (by decide) rfl o3) rfl 0 rfl (by decide) (by decide) (by decide) (by decide) ?_
          rintro _ _ ⟨rfl, rfl⟩
          try simp only [List.replicate_succ, List.replicate_zero, List.set_cons_zero, List.set_cons_succ, List.length_nil, List.length_cons, Nat.zero_add, Nat.reduceAdd, List.nil_append, List.cons_append]
          refine go_ifeqN e0_438 (tg := 460) (by decide) (by decide) ?_
          refine go_aload e0_441 rfl rfl ?_
          refine go_aload e0_443 rfl rfl ?_
          refine go_iload e0_445 rfl ?_
          refine go_iconst e0_447 (x := 0) rfl ?_
          refine go_iconst e0_448 (x := 1) rfl ?_
          refine go_iconst e0_449 (x := 4) rfl ?_
          refine go_static_6 e0_450 (wd 19 rfl) (wd 20 rfl) (wd 21 rfl) (wd 4 rfl) hy_1 pd_7 rfl (c_same1 hw (n := 5) (s1 := 0) (i := 4) (K := 4) rfl rfl (by decide) (by decide) (by decide) (by decide) (by decide) (by decide) (by decide) rfl o4) rfl 0 rfl (by decide) (by decide) (by decide) (by decide) ?_
          rintro _ _ ⟨rfl, rfl⟩
          try simp only [List.replicate_succ, List.replicate_zero, List.set_cons_zero, List.set_cons_succ, List.length_nil, List.length_cons, Nat.zero_add, Nat.reduceAdd, List.nil_append, List.cons_append]
          refine go_ifeqN e0_453 (tg := 460) (by decide) (by decide) ?_
          refine go_iconst e0_456 (x := 1) rfl ?_
          refine go_goto e0_457 (tg := 461) (by decide) ?_
          refine go_istore_16 e0_461 rfl ?_
          refine go_aload e0_463 rfl rfl ?_
          refine go_aload e0_465 rfl rfl ?_
          refine go_iload e0_467 rfl ?_
          refine go_iload e0_469 rfl ?_
          refine go_iload e0_471 rfl ?_
          refine go_iconst e0_473 (x := 0) rfl ?_
          refine go_static_6 e0_474 (wd 19 rfl) (wd 20 rfl) (wd 21 rfl) (wd 4 rfl) hy_1 pd_7 rfl (c_same1 hw (n := 5) (s1 := 3) (i := 0) (K := 3) rfl rfl (by decide) (by decide) (by decide) (by decide) (by decide) (by decide) (by decide) rfl rfl) rfl 0 rfl (by decide) (by decide) (by decide) (by decide) ?_
          rintro _ _ ⟨rfl, rfl⟩
          try simp only [List.replicate_succ, List.replicate_zero, List.set_cons_zero, List.set_cons_succ, List.length_nil, List.length_cons, Nat.zero_add, Nat.reduceAdd, List.nil_append, List.cons_append]
          refine go_ifeqN e0_477 (tg := 552) (by decide) (by decide) ?_
          refine go_aload e0_480 rfl rfl ?_
          refine go_aload e0_482 rfl rfl ?_
          refine go_iload e0_484 rfl ?_
          refine go_iload e0_486 rfl ?_
          refine go_iload e0_488 rfl ?_
          refine go_iconst e0_490 (x := 1) rfl ?_
          refine go_static_6 e0_491 (wd 19 rfl) (wd 20 rfl) (wd 21 rfl) (wd 4 rfl) hy_1 pd_7 rfl (c_same1 hw (n := 5) (s1 := 3) (i := 1) (K := 4) rfl rfl (by decide) (by decide) (by decide) (by decide) (by decide) (by decide) (by decide) rfl rfl) rfl 0 rfl (by decide) (by decide) (by decide) (by decide) ?_
          rintro _ _ ⟨rfl, rfl⟩
          try simp only [List.replicate_succ, List.replicate_zero, List.set_cons_zero, List.set_cons_succ, List.length_nil, List.length_cons, Nat.zero_add, Nat.reduceAdd, List.nil_append, List.cons_append]
          refine go_ifeqN e0_494 (tg := 552) (by decide) (by decide) ?_
          refine go_aload e0_497 rfl rfl ?_
          refine go_aload e0_499 rfl rfl ?_
          refine go_iload e0_501 rfl ?_
          refine go_iload e0_503 rfl ?_
          refine go_iload e0_505 rfl ?_
          refine go_iconst e0_507 (x := 2) rfl ?_
          refine go_static_6 e0_508 (wd 19 rfl) (wd 20 rfl) (wd 21 rfl) (wd 4 rfl) hy_1 pd_7 rfl (c_same1 hw (n := 5) (s1 := 3) (i := 2) (K := 0) rfl rfl (by decide) (by decide) (by decide) (by decide) (by decide) (by decide) (by decide) rfl rfl) rfl 0 rfl (by decide) (by decide) (by decide) (by decide) ?_
          rintro _ _ ⟨rfl, rfl⟩
          try simp only [List.replicate_succ, List.replicate_zero, List.set_cons_zero, List.set_cons_succ, List.length_nil, List.length_cons, Nat.zero_add, Nat.reduceAdd, List.nil_append, List.cons_append]
          refine go_ifeqN e0_511 (tg := 552) (by decide) (by decide) ?_
          refine go_aload e0_514 rfl rfl ?_
          refine go_aload e0_516 rfl rfl ?_
          refine go_iload e0_518 rfl ?_
          refine go_iload e0_520 rfl ?_
          refine go_iload e0_522 rfl ?_
          refine go_iconst e0_524 (x := 3) rfl ?_
          refine go_static_6 e0_525 (wd 19 rfl) (wd 20 rfl) (wd 21 rfl) (wd 4 rfl) hy_1 pd_7 rfl (c_same1 hw (n := 5) (s1 := 3) (i := 3) (K := 1) rfl rfl (by decide) (by decide) (by decide) (by decide) (by decide) (by decide) (by decide) rfl rfl) rfl 0 rfl (by decide) (by decide) (by decide) (by decide) ?_
          rintro _ _ ⟨rfl, rfl⟩
          try simp only [List.replicate_succ, List.replicate_zero, List.set_cons_zero, List.set_cons_succ, List.length_nil, List.length_cons, Nat.zero_add, Nat.reduceAdd, List.nil_append, List.cons_append]
          refine go_ifeqN e0_528 (tg := 552) (by decide) (by decide) ?_
          refine go_aload e0_531 rfl rfl ?_
          refine go_aload e0_533 rfl rfl ?_
          refine go_iload e0_535 rfl ?_
          refine go_iload e0_537 rfl ?_
          refine go_iload e0_539 rfl ?_
          refine go_iconst e0_541 (x := 4) rfl ?_
          refine go_static_6 e0_542 (wd 19 rfl) (wd 20 rfl) (wd 21 rfl) (wd 4 rfl) hy_1 pd_7 rfl (c_same1 hw (n := 5) (s1 := 3) (i := 4) (K := 2) rfl rfl (by decide) (by decide) (by decide) (by decide) (by decide) (by decide) (by decide) rfl rfl) rfl 0 rfl (by decide) (by decide) (by decide) (by decide) ?_
          rintro _ _ ⟨rfl, rfl⟩
          try simp only [List.replicate_succ, List.replicate_zero, List.set_cons_zero, List.set_cons_succ, List.length_nil, List.length_cons, Nat.zero_add, Nat.reduceAdd, List.nil_append, List.cons_append]
          refine go_ifeqN e0_545 (tg := 552) (by decide) (by decide) ?_
          refine go_iconst e0_548 (x := 1) rfl ?_
          refine go_goto e0_549 (tg := 553) (by decide) ?_
          refine go_istore_17 e0_553 rfl ?_
          refine go_iload e0_555 rfl ?_
          refine go_ifeqN e0_557 (tg := 569) (by decide) (by decide) ?_
          refine go_iload e0_560 rfl ?_
          refine go_ifeqN e0_562 (tg := 569) (by decide) (by decide) ?_
          refine go_iconst e0_565 (x := 1) rfl ?_
          refine go_goto e0_566 (tg := 570) (by decide) ?_
          refine go_zreturn e0_570 rfl (by decide) (by decide) (by decide) ?_
          exact rfl
      · refine go_iloadN e0_268 rfl ?_
        refine go_iconst e0_269 (x := 1) rfl ?_
        refine go_iand e0_270 ?_
        refine go_ifeq e0_271 (tg := 278) (by decide) ?_ ?_
        · intro c271
          refine go_iconst e0_278 (x := 0) rfl ?_
          refine go_istore_13 e0_279 rfl ?_
          refine go_iload e0_281 rfl ?_
          refine go_newarray e0_283 (wd 1 rfl) (k := 5) rfl (vs := [.int 0, .int 0, .int 0, .int 0, .int 0]) rfl (cap := 5) (by decide) (by decide) (by decide) (by decide) ?_
          simp only [List.replicate_succ, List.replicate_zero, List.set_cons_zero, List.set_cons_succ, List.length_nil, List.length_cons, Nat.zero_add, Nat.reduceAdd, List.nil_append, List.cons_append]
          refine go_astore_14 e0_285 rfl rfl ?_
          refine go_aload e0_287 rfl rfl ?_
          refine go_aload e0_289 rfl rfl ?_
          refine go_iload e0_291 rfl ?_
          refine go_iload e0_293 rfl ?_
          refine go_iload e0_295 rfl ?_
          refine go_iconst e0_297 (x := 0) rfl ?_
          refine go_staticV_6 e0_298 (wd 9 rfl) (wd 10 rfl) (wd 11 rfl) (wd 4 rfl) hy_1 pd_4 rfl (c_place1 hw (n := 5) (s1 := 4) (i := 0) (K := 4) rfl rfl (by decide) (by decide) (by decide) (by decide) (by decide) (by decide) (by decide) rfl (Nat.le_of_ble_eq_true rfl)) rfl 0 rfl (by decide) (by decide) (by decide) (by decide) ?_
          rintro _ rfl
          try simp only [List.replicate_succ, List.replicate_zero, List.set_cons_zero, List.set_cons_succ, List.length_nil, List.length_cons, Nat.zero_add, Nat.reduceAdd, List.nil_append, List.cons_append]
          refine go_aload e0_301 rfl rfl ?_
          refine go_aload e0_303 rfl rfl ?_
          refine go_iload e0_305 rfl ?_
          refine go_iload e0_307 rfl ?_
          refine go_iload e0_309 rfl ?_
          refine go_iconst e0_311 (x := 1) rfl ?_
          refine go_staticV_6 e0_312 (wd 9 rfl) (wd 10 rfl) (wd 11 rfl) (wd 4 rfl) hy_1 pd_4 rfl (c_place1 hw (n := 5) (s1 := 4) (i := 1) (K := 3) rfl rfl (by decide) (by decide) (by decide) (by decide) (by decide) (by decide) (by decide) rfl (Nat.le_of_ble_eq_true rfl)) rfl 0 rfl (by decide) (by decide) (by decide) (by decide) ?_
          rintro _ rfl
          try simp only [List.replicate_succ, List.replicate_zero, List.set_cons_zero, List.set_cons_succ, List.length_nil, List.length_cons, Nat.zero_add, Nat.reduceAdd, List.nil_append, List.cons_append]
          refine go_aload e0_315 rfl rfl ?_
          refine go_aload e0_317 rfl rfl ?_
          refine go_iload e0_319 rfl ?_
          refine go_iload e0_321 rfl ?_
          refine go_iload e0_323 rfl ?_
          refine go_iconst e0_325 (x := 2) rfl ?_
          refine go_staticV_6 e0_326 (wd 9 rfl) (wd 10 rfl) (wd 11 rfl) (wd 4 rfl) hy_1 pd_4 rfl (c_place1 hw (n := 5) (s1 := 4) (i := 2) (K := 2) rfl rfl (by decide) (by decide) (by decide) (by decide) (by decide) (by decide) (by decide) rfl (Nat.le_of_ble_eq_true rfl)) rfl 0 rfl (by decide) (by decide) (by decide) (by decide) ?_
          rintro _ rfl
          try simp only [List.replicate_succ, List.replicate_zero, List.set_cons_zero, List.set_cons_succ, List.length_nil, List.length_cons, Nat.zero_add, Nat.reduceAdd, List.nil_append, List.cons_append]
          refine go_aload e0_329 rfl rfl ?_
          refine go_aload e0_331 rfl rfl ?_
          refine go_iload e0_333 rfl ?_
          refine go_iload e0_335 rfl ?_
          refine go_iload e0_337 rfl ?_
          refine go_iconst e0_339 (x := 3) rfl ?_
          refine go_staticV_6 e0_340 (wd 9 rfl) (wd 10 rfl) (wd 11 rfl) (wd 4 rfl) hy_1 pd_4 rfl (c_place1 hw (n := 5) (s1 := 4) (i := 3) (K := 1) rfl rfl (by decide) (by decide) (by decide) (by decide) (by decide) (by decide) (by decide) rfl (Nat.le_of_ble_eq_true rfl)) rfl 0 rfl (by decide) (by decide) (by decide) (by decide) ?_
          rintro _ rfl
          try simp only [List.replicate_succ, List.replicate_zero, List.set_cons_zero, List.set_cons_succ, List.length_nil, List.length_cons, Nat.zero_add, Nat.reduceAdd, List.nil_append, List.cons_append]
          refine go_aload e0_343 rfl rfl ?_
          refine go_aload e0_345 rfl rfl ?_
          refine go_iload e0_347 rfl ?_
          refine go_iload e0_349 rfl ?_
          refine go_iload e0_351 rfl ?_
          refine go_iconst e0_353 (x := 4) rfl ?_
          refine go_staticV_6 e0_354 (wd 9 rfl) (wd 10 rfl) (wd 11 rfl) (wd 4 rfl) hy_1 pd_4 rfl (c_place1 hw (n := 5) (s1 := 4) (i := 4) (K := 0) rfl rfl (by decide) (by decide) (by decide) (by decide) (by decide) (by decide) (by decide) rfl (Nat.le_of_ble_eq_true rfl)) rfl 0 rfl (by decide) (by decide) (by decide) (by decide) ?_
          rintro _ rfl
          try simp only [List.replicate_succ, List.replicate_zero, List.set_cons_zero, List.set_cons_succ, List.length_nil, List.length_cons, Nat.zero_add, Nat.reduceAdd, List.nil_append, List.cons_append]
          refine go_aload e0_357 rfl rfl ?_
          refine go_static_1 e0_359 (wd 15 rfl) (wd 16 rfl) (wd 18 rfl) (wd 17 rfl) hy_5 pd_6 rfl (c_norm hw (n := 5) (st := 4) (nn := 5) (va := w4) (vb := w1) rfl rfl (by decide) (by decide) (by intro v hv; simp only [List.mem_cons, List.not_mem_nil, or_false] at hv; rcases hv with rfl | rfl | rfl | rfl | rfl <;> exact ⟨_, rfl⟩) (by decide) rfl (fun j hj => by
              have hj2 : j = 0 ∨ j = 1 ∨ j = 2 ∨ j = 3 := by omega
              rcases hj2 with rfl | rfl | rfl | rfl
              · exact ⟨_, rfl, n4⟩
              · exact ⟨_, rfl, n3⟩
              · exact ⟨_, rfl, n2⟩
              · exact ⟨_, rfl, n1⟩) rfl rfl) rfl 0 rfl (by decide) (by decide) (by decide) (by decide) ?_
          rintro _ _ ⟨rfl, out, rfl, hol, hout⟩
          rw [if_neg (by omega)] at hout
          have o0 : out[0]? = some (.int 0) := hout 0 (by decide)
          have o1 : out[1]? = some (.int w1) := hout 1 (by decide)
          have o2 : out[2]? = some (.int w2) := hout 2 (by decide)
          have o3 : out[3]? = some (.int w3) := hout 3 (by decide)
          have o4 : out[4]? = some (.int w4) := hout 4 (by decide)
          try simp only [List.replicate_succ, List.replicate_zero, List.set_cons_zero, List.set_cons_succ, List.length_nil, List.length_cons, Nat.zero_add, Nat.reduceAdd, List.nil_append, List.cons_append]
          refine go_astore_15 e0_362 rfl rfl ?_
          refine go_aload e0_364 rfl rfl ?_
          refine go_aload e0_366 rfl rfl ?_
          refine go_acmp e0_368 rfl rfl (same := false) (by decide) (tg := 379) (by decide) ?_
          show Go C 371 _ _ _ _ _
          refine go_aload e0_371 rfl rfl ?_
          refine go_len e0_373 rfl (n := 5) (by rw [hol]; decide) ?_
          refine go_iload e0_374 rfl ?_
          refine go_iceqY e0_376 (tg := 381) (by decide) rfl ?_
          refine go_aload e0_381 rfl rfl ?_
          refine go_aload e0_383 rfl rfl ?_
          refine go_iload e0_385 rfl ?_
          refine go_iconst e0_387 (x := 0) rfl ?_
          refine go_iconst e0_388 (x := 1) rfl ?_
          refine go_iconst e0_389 (x := 0) rfl ?_
          refine go_static_6 e0_390 (wd 19 rfl) (wd 20 rfl) (wd 21 rfl) (wd 4 rfl) hy_1 pd_7 rfl (c_same1 hw (n := 5) (s1 := 0) (i := 0) (K := 0) rfl rfl (by decide) (by decide) (by decide) (by decide) (by decide) (by decide) (by decide) rfl o0) rfl 0 rfl (by decide) (by decide) (by decide) (by decide) ?_
          rintro _ _ ⟨rfl, rfl⟩
          try simp only [List.replicate_succ, List.replicate_zero, List.set_cons_zero, List.set_cons_succ, List.length_nil, List.length_cons, Nat.zero_add, Nat.reduceAdd, List.nil_append, List.cons_append]
          refine go_ifeqN e0_393 (tg := 460) (by decide) (by decide) ?_
          refine go_aload e0_396 rfl rfl ?_
          refine go_aload e0_398 rfl rfl ?_
          refine go_iload e0_400 rfl ?_
          refine go_iconst e0_402 (x := 0) rfl ?_
          refine go_iconst e0_403 (x := 1) rfl ?_
          refine go_iconst e0_404 (x := 1) rfl ?_
          refine go_static_6 e0_405 (wd 19 rfl) (wd 20 rfl) (wd 21 rfl) (wd 4 rfl) hy_1 pd_7 rfl (c_same1 hw (n := 5) (s1 := 0) (i := 1) (K := 1) rfl rfl (by decide) (by decide) (by decide) (by decide) (by decide) (by decide) (by decide) rfl o1) rfl 0 rfl (by decide) (by decide) (by decide) (by decide) ?_
          rintro _ _ ⟨rfl, rfl⟩
          try simp only [List.replicate_succ, List.replicate_zero, List.set_cons_zero, List.set_cons_succ, List.length_nil, List.length_cons, Nat.zero_add, Nat.reduceAdd, List.nil_append, List.cons_append]
          refine go_ifeqN e0_408 (tg := 460) (by decide) (by decide) ?_
          refine go_aload e0_411 rfl rfl ?_
          refine go_aload e0_413 rfl rfl ?_
          refine go_iload e0_415 rfl ?_
          refine go_iconst e0_417 (x := 0) rfl ?_
          refine go_iconst e0_418 (x := 1) rfl ?_
          refine go_iconst e0_419 (x := 2) rfl ?_
          refine go_static_6 e0_420 (wd 19 rfl) (wd 20 rfl) (wd 21 rfl) (wd 4 rfl) hy_1 pd_7 rfl (c_same1 hw (n := 5) (s1 := 0) (i := 2) (K := 2) rfl rfl (by decide) (by decide) (by decide) (by decide) (by decide) (by decide) (by decide) rfl o2) rfl 0 rfl (by decide) (by decide) (by decide) (by decide) ?_
          rintro _ _ ⟨rfl, rfl⟩
          try simp only [List.replicate_succ, List.replicate_zero, List.set_cons_zero, List.set_cons_succ, List.length_nil, List.length_cons, Nat.zero_add, Nat.reduceAdd, List.nil_append, List.cons_append]
          refine go_ifeqN e0_423 (tg := 460) (by decide) (by decide) ?_
          refine go_aload e0_426 rfl rfl ?_
          refine go_aload e0_428 rfl rfl ?_
          refine go_iload e0_430 rfl ?_
          refine go_iconst e0_432 (x := 0) rfl ?_
          refine go_iconst e0_433 (x := 1) rfl ?_
          refine go_iconst e0_434 (x := 3) rfl ?_
          refine go_static_6 e0_435 (wd 19 rfl) (wd 20 rfl) (wd 21 rfl) (wd 4 rfl) hy_1 pd_7 rfl (c_same1 hw (n := 5) (s1 := 0) (i := 3) (K := 3) rfl rfl (by decide) (by decide) (by decide) (by decide) (by decide) (by decide) (by decide) rfl o3) rfl 0 rfl (by decide) (by decide) (by decide) (by decide) ?_
          rintro _ _ ⟨rfl, rfl⟩
          try simp only [List.replicate_succ, List.replicate_zero, List.set_cons_zero, List.set_cons_succ, List.length_nil, List.length_cons, Nat.zero_add, Nat.reduceAdd, List.nil_append, List.cons_append]
          refine go_ifeqN e0_438 (tg := 460) (by decide) (by decide) ?_
          refine go_aload e0_441 rfl rfl ?_
          refine go_aload e0_443 rfl rfl ?_
          refine go_iload e0_445 rfl ?_
          refine go_iconst e0_447 (x := 0) rfl ?_
          refine go_iconst e0_448 (x := 1) rfl ?_
          refine go_iconst e0_449 (x := 4) rfl ?_
          refine go_static_6 e0_450 (wd 19 rfl) (wd 20 rfl) (wd 21 rfl) (wd 4 rfl) hy_1 pd_7 rfl (c_same1 hw (n := 5) (s1 := 0) (i := 4) (K := 4) rfl rfl (by decide) (by decide) (by decide) (by decide) (by decide) (by decide) (by decide) rfl o4) rfl 0 rfl (by decide) (by decide) (by decide) (by decide) ?_
          rintro _ _ ⟨rfl, rfl⟩
          try simp only [List.replicate_succ, List.replicate_zero, List.set_cons_zero, List.set_cons_succ, List.length_nil, List.length_cons, Nat.zero_add, Nat.reduceAdd, List.nil_append, List.cons_append]
          refine go_ifeqN e0_453 (tg := 460) (by decide) (by decide) ?_
          refine go_iconst e0_456 (x := 1) rfl ?_
          refine go_goto e0_457 (tg := 461) (by decide) ?_
          refine go_istore_16 e0_461 rfl ?_
          refine go_aload e0_463 rfl rfl ?_
          refine go_aload e0_465 rfl rfl ?_
          refine go_iload e0_467 rfl ?_
          refine go_iload e0_469 rfl ?_
          refine go_iload e0_471 rfl ?_
          refine go_iconst e0_473 (x := 0) rfl ?_
          refine go_static_6 e0_474 (wd 19 rfl) (wd 20 rfl) (wd 21 rfl) (wd 4 rfl) hy_1 pd_7 rfl (c_same1 hw (n := 5) (s1 := 4) (i := 0) (K := 4) rfl rfl (by decide) (by decide) (by decide) (by decide) (by decide) (by decide) (by decide) rfl rfl) rfl 0 rfl (by decide) (by decide) (by decide) (by decide) ?_
          rintro _ _ ⟨rfl, rfl⟩
          try simp only [List.replicate_succ, List.replicate_zero, List.set_cons_zero, List.set_cons_succ, List.length_nil, List.length_cons, Nat.zero_add, Nat.reduceAdd, List.nil_append, List.cons_append]
          refine go_ifeqN e0_477 (tg := 552) (by decide) (by decide) ?_
          refine go_aload e0_480 rfl rfl ?_
          refine go_aload e0_482 rfl rfl ?_
          refine go_iload e0_484 rfl ?_
          refine go_iload e0_486 rfl ?_
          refine go_iload e0_488 rfl ?_
          refine go_iconst e0_490 (x := 1) rfl ?_
          refine go_static_6 e0_491 (wd 19 rfl) (wd 20 rfl) (wd 21 rfl) (wd 4 rfl) hy_1 pd_7 rfl (c_same1 hw (n := 5) (s1 := 4) (i := 1) (K := 3) rfl rfl (by decide) (by decide) (by decide) (by decide) (by decide) (by decide) (by decide) rfl rfl) rfl 0 rfl (by decide) (by decide) (by decide) (by decide) ?_
          rintro _ _ ⟨rfl, rfl⟩
          try simp only [List.replicate_succ, List.replicate_zero, List.set_cons_zero, List.set_cons_succ, List.length_nil, List.length_cons, Nat.zero_add, Nat.reduceAdd, List.nil_append, List.cons_append]
          refine go_ifeqN e0_494 (tg := 552) (by decide) (by decide) ?_
          refine go_aload e0_497 rfl rfl ?_
          refine go_aload e0_499 rfl rfl ?_
          refine go_iload e0_501 rfl ?_
          refine go_iload e0_503 rfl ?_
          refine go_iload e0_505 rfl ?_
          refine go_iconst e0_507 (x := 2) rfl ?_
          refine go_static_6 e0_508 (wd 19 rfl) (wd 20 rfl) (wd 21 rfl) (wd 4 rfl) hy_1 pd_7 rfl (c_same1 hw (n := 5) (s1 := 4) (i := 2) (K := 2) rfl rfl (by decide) (by decide) (by decide) (by decide) (by decide) (by decide) (by decide) rfl rfl) rfl 0 rfl (by decide) (by decide) (by decide) (by decide) ?_
          rintro _ _ ⟨rfl, rfl⟩
          try simp only [List.replicate_succ, List.replicate_zero, List.set_cons_zero, List.set_cons_succ, List.length_nil, List.length_cons, Nat.zero_add, Nat.reduceAdd, List.nil_append, List.cons_append]
          refine go_ifeqN e0_511 (tg := 552) (by decide) (by decide) ?_
          refine go_aload e0_514 rfl rfl ?_
          refine go_aload e0_516 rfl rfl ?_
          refine go_iload e0_518 rfl ?_
          refine go_iload e0_520 rfl ?_
          refine go_iload e0_522 rfl ?_
          refine go_iconst e0_524 (x := 3) rfl ?_
          refine go_static_6 e0_525 (wd 19 rfl) (wd 20 rfl) (wd 21 rfl) (wd 4 rfl) hy_1 pd_7 rfl (c_same1 hw (n := 5) (s1 := 4) (i := 3) (K := 1) rfl rfl (by decide) (by decide) (by decide) (by decide) (by decide) (by decide) (by decide) rfl rfl) rfl 0 rfl (by decide) (by decide) (by decide) (by decide) ?_
          rintro _ _ ⟨rfl, rfl⟩
          try simp only [List.replicate_succ, List.replicate_zero, List.set_cons_zero, List.set_cons_succ, List.length_nil, List.length_cons, Nat.zero_add, Nat.reduceAdd, List.nil_append, List.cons_append]
          refine go_ifeqN e0_528 (tg := 552) (by decide) (by decide) ?_
          refine go_aload e0_531 rfl rfl ?_
          refine go_aload e0_533 rfl rfl ?_
          refine go_iload e0_535 rfl ?_
          refine go_iload e0_537 rfl ?_
          refine go_iload e0_539 rfl ?_
          refine go_iconst e0_541 (x := 4) rfl ?_
          refine go_static_6 e0_542 (wd 19 rfl) (wd 20 rfl) (wd 21 rfl) (wd 4 rfl) hy_1 pd_7 rfl (c_same1 hw (n := 5) (s1 := 4) (i := 4) (K := 0) rfl rfl (by decide) (by decide) (by decide) (by decide) (by decide) (by decide) (by decide) rfl rfl) rfl 0 rfl (by decide) (by decide) (by decide) (by decide) ?_
          rintro _ _ ⟨rfl, rfl⟩
          try simp only [List.replicate_succ, List.replicate_zero, List.set_cons_zero, List.set_cons_succ, List.length_nil, List.length_cons, Nat.zero_add, Nat.reduceAdd, List.nil_append, List.cons_append]
          refine go_ifeqN e0_545 (tg := 552) (by decide) (by decide) ?_
          refine go_iconst e0_548 (x := 1) rfl ?_
          refine go_goto e0_549 (tg := 553) (by decide) ?_
          refine go_istore_17 e0_553 rfl ?_
          refine go_iload e0_555 rfl ?_
          refine go_ifeqN e0_557 (tg := 569) (by decide) (by decide) ?_
          refine go_iload e0_560 rfl ?_
          refine go_ifeqN e0_562 (tg := 569) (by decide) (by decide) ?_
          refine go_iconst e0_565 (x := 1) rfl ?_
          refine go_goto e0_566 (tg := 570) (by decide) ?_
          refine go_zreturn e0_570 rfl (by decide) (by decide) (by decide) ?_
          exact rfl
        · intro c271
          refine go_iconst e0_274 (x := 1) rfl ?_
          refine go_goto e0_275 (tg := 279) (by decide) ?_
          refine go_istore_13 e0_279 rfl ?_
          refine go_iload e0_281 rfl ?_
          refine go_newarray e0_283 (wd 1 rfl) (k := 5) rfl (vs := [.int 0, .int 0, .int 0, .int 0, .int 0]) rfl (cap := 5) (by decide) (by decide) (by decide) (by decide) ?_
          simp only [List.replicate_succ, List.replicate_zero, List.set_cons_zero, List.set_cons_succ, List.length_nil, List.length_cons, Nat.zero_add, Nat.reduceAdd, List.nil_append, List.cons_append]
          refine go_astore_14 e0_285 rfl rfl ?_
          refine go_aload e0_287 rfl rfl ?_
          refine go_aload e0_289 rfl rfl ?_
          refine go_iload e0_291 rfl ?_
          refine go_iload e0_293 rfl ?_
          refine go_iload e0_295 rfl ?_
          refine go_iconst e0_297 (x := 0) rfl ?_
          refine go_staticV_6 e0_298 (wd 9 rfl) (wd 10 rfl) (wd 11 rfl) (wd 4 rfl) hy_1 pd_4 rfl (c_place1 hw (n := 5) (s1 := 4) (i := 0) (K := 4) rfl rfl (by decide) (by decide) (by decide) (by decide) (by decide) (by decide) (by decide) rfl (Nat.le_of_ble_eq_true rfl)) rfl 0 rfl (by decide) (by decide) (by decide) (by decide) ?_
          rintro _ rfl
          try simp only [List.replicate_succ, List.replicate_zero, List.set_cons_zero, List.set_cons_succ, List.length_nil, List.length_cons, Nat.zero_add, Nat.reduceAdd, List.nil_append, List.cons_append]
          refine go_aload e0_301 rfl rfl ?_
          refine go_aload e0_303 rfl rfl ?_
          refine go_iload e0_305 rfl ?_
          refine go_iload e0_307 rfl ?_
          refine go_iload e0_309 rfl ?_
          refine go_iconst e0_311 (x := 1) rfl ?_
          refine go_staticV_6 e0_312 (wd 9 rfl) (wd 10 rfl) (wd 11 rfl) (wd 4 rfl) hy_1 pd_4 rfl (c_place1 hw (n := 5) (s1 := 4) (i := 1) (K := 0) rfl rfl (by decide) (by decide) (by decide) (by decide) (by decide) (by decide) (by decide) rfl (Nat.le_of_ble_eq_true rfl)) rfl 0 rfl (by decide) (by decide) (by decide) (by decide) ?_
          rintro _ rfl
          try simp only [List.replicate_succ, List.replicate_zero, List.set_cons_zero, List.set_cons_succ, List.length_nil, List.length_cons, Nat.zero_add, Nat.reduceAdd, List.nil_append, List.cons_append]
          refine go_aload e0_315 rfl rfl ?_
          refine go_aload e0_317 rfl rfl ?_
          refine go_iload e0_319 rfl ?_
          refine go_iload e0_321 rfl ?_
          refine go_iload e0_323 rfl ?_
          refine go_iconst e0_325 (x := 2) rfl ?_
          refine go_staticV_6 e0_326 (wd 9 rfl) (wd 10 rfl) (wd 11 rfl) (wd 4 rfl) hy_1 pd_4 rfl (c_place1 hw (n := 5) (s1 := 4) (i := 2) (K := 1) rfl rfl (by decide) (by decide) (by decide) (by decide) (by decide) (by decide) (by decide) rfl (Nat.le_of_ble_eq_true rfl)) rfl 0 rfl (by decide) (by decide) (by decide) (by decide) ?_
          rintro _ rfl
          try simp only [List.replicate_succ, List.replicate_zero, List.set_cons_zero, List.set_cons_succ, List.length_nil, List.length_cons, Nat.zero_add, Nat.reduceAdd, List.nil_append, List.cons_append]
          refine go_aload e0_329 rfl rfl ?_
          refine go_aload e0_331 rfl rfl ?_
          refine go_iload e0_333 rfl ?_
          refine go_iload e0_335 rfl ?_
          refine go_iload e0_337 rfl ?_
          refine go_iconst e0_339 (x := 3) rfl ?_
          refine go_staticV_6 e0_340 (wd 9 rfl) (wd 10 rfl) (wd 11 rfl) (wd 4 rfl) hy_1 pd_4 rfl (c_place1 hw (n := 5) (s1 := 4) (i := 3) (K := 2) rfl rfl (by decide) (by decide) (by decide) (by decide) (by decide) (by decide) (by decide) rfl (Nat.le_of_ble_eq_true rfl)) rfl 0 rfl (by decide) (by decide) (by decide) (by decide) ?_
          rintro _ rfl
          try simp only [List.replicate_succ, List.replicate_zero, List.set_cons_zero, List.set_cons_succ, List.length_nil, List.length_cons, Nat.zero_add, Nat.reduceAdd, List.nil_append, List.cons_append]
          refine go_aload e0_343 rfl rfl ?_
          refine go_aload e0_345 rfl rfl ?_
          refine go_iload e0_347 rfl ?_
          refine go_iload e0_349 rfl ?_
          refine go_iload e0_351 rfl ?_
          refine go_iconst e0_353 (x := 4) rfl ?_
          refine go_staticV_6 e0_354 (wd 9 rfl) (wd 10 rfl) (wd 11 rfl) (wd 4 rfl) hy_1 pd_4 rfl (c_place1 hw (n := 5) (s1 := 4) (i := 4) (K := 3) rfl rfl (by decide) (by decide) (by decide) (by decide) (by decide) (by decide) (by decide) rfl (Nat.le_of_ble_eq_true rfl)) rfl 0 rfl (by decide) (by decide) (by decide) (by decide) ?_
          rintro _ rfl
          try simp only [List.replicate_succ, List.replicate_zero, List.set_cons_zero, List.set_cons_succ, List.length_nil, List.length_cons, Nat.zero_add, Nat.reduceAdd, List.nil_append, List.cons_append]
          refine go_aload e0_357 rfl rfl ?_
          refine go_static_1 e0_359 (wd 15 rfl) (wd 16 rfl) (wd 18 rfl) (wd 17 rfl) hy_5 pd_6 rfl (c_norm hw (n := 5) (st := 4) (nn := 5) (va := w1) (vb := w4) rfl rfl (by decide) (by decide) (by intro v hv; simp only [List.mem_cons, List.not_mem_nil, or_false] at hv; rcases hv with rfl | rfl | rfl | rfl | rfl <;> exact ⟨_, rfl⟩) (by decide) rfl (fun j hj => by
              have hj2 : j = 0 ∨ j = 1 ∨ j = 2 ∨ j = 3 := by omega
              rcases hj2 with rfl | rfl | rfl | rfl
              · exact ⟨_, rfl, n1⟩
              · exact ⟨_, rfl, n2⟩
              · exact ⟨_, rfl, n3⟩
              · exact ⟨_, rfl, n4⟩) rfl rfl) rfl 0 rfl (by decide) (by decide) (by decide) (by decide) ?_
          rintro _ _ ⟨rfl, out, rfl, hol, hout⟩
          rw [if_pos (by omega)] at hout
          have o0 : out[0]? = some (.int 0) := hout 0 (by decide)
          have o1 : out[1]? = some (.int w1) := hout 1 (by decide)
          have o2 : out[2]? = some (.int w2) := hout 2 (by decide)
          have o3 : out[3]? = some (.int w3) := hout 3 (by decide)
          have o4 : out[4]? = some (.int w4) := hout 4 (by decide)
          try simp only [List.replicate_succ, List.replicate_zero, List.set_cons_zero, List.set_cons_succ, List.length_nil, List.length_cons, Nat.zero_add, Nat.reduceAdd, List.nil_append, List.cons_append]
          refine go_astore_15 e0_362 rfl rfl ?_
          refine go_aload e0_364 rfl rfl ?_
          refine go_aload e0_366 rfl rfl ?_
          refine go_acmp e0_368 rfl rfl (same := false) (by decide) (tg := 379) (by decide) ?_
          show Go C 371 _ _ _ _ _
          refine go_aload e0_371 rfl rfl ?_
          refine go_len e0_373 rfl (n := 5) (by rw [hol]; decide) ?_
          refine go_iload e0_374 rfl ?_
          refine go_iceqY e0_376 (tg := 381) (by decide) rfl ?_
          refine go_aload e0_381 rfl rfl ?_
          refine go_aload e0_383 rfl rfl ?_
          refine go_iload e0_385 rfl ?_
          refine go_iconst e0_387 (x := 0) rfl ?_
          refine go_iconst e0_388 (x := 1) rfl ?_
          refine go_iconst e0_389 (x := 0) rfl ?_
          refine go_static_6 e0_390 (wd 19 rfl) (wd 20 rfl) (wd 21 rfl) (wd 4 rfl) hy_1 pd_7 rfl (c_same1 hw (n := 5) (s1 := 0) (i := 0) (K := 0) rfl rfl (by decide) (by decide) (by decide) (by decide) (by decide) (by decide) (by decide) rfl o0) rfl 0 rfl (by decide) (by decide) (by decide) (by decide) ?_
          rintro _ _ ⟨rfl, rfl⟩
          try simp only [List.replicate_succ, List.replicate_zero, List.set_cons_zero, List.set_cons_succ, List.length_nil, List.length_cons, Nat.zero_add, Nat.reduceAdd, List.nil_append, List.cons_append]
          refine go_ifeqN e0_393 (tg := 460) (by decide) (by decide) ?_
          refine go_aload e0_396 rfl rfl ?_
          refine go_aload e0_398 rfl rfl ?_
          refine go_iload e0_400 rfl ?_
          refine go_iconst e0_402 (x := 0) rfl ?_
          refine go_iconst e0_403 (x := 1) rfl ?_
          refine go_iconst e0_404 (x := 1) rfl ?_
          refine go_static_6 e0_405 (wd 19 rfl) (wd 20 rfl) (wd 21 rfl) (wd 4 rfl) hy_1 pd_7 rfl (c_same1 hw (n := 5) (s1 := 0) (i := 1) (K := 1) rfl rfl (by decide) (by decide) (by decide) (by decide) (by decide) (by decide) (by decide) rfl o1) rfl 0 rfl (by decide) (by decide) (by decide) (by decide) ?_
          rintro _ _ ⟨rfl, rfl⟩
          try simp only [List.replicate_succ, List.replicate_zero, List.set_cons_zero, List.set_cons_succ, List.length_nil, List.length_cons, Nat.zero_add, Nat.reduceAdd, List.nil_append, List.cons_append]
          refine go_ifeqN e0_408 (tg := 460) (by decide) (by decide) ?_
          refine go_aload e0_411 rfl rfl ?_
          refine go_aload e0_413 rfl rfl ?_
          refine go_iload e0_415 rfl ?_
          refine go_iconst e0_417 (x := 0) rfl ?_
          refine go_iconst e0_418 (x := 1) rfl ?_
          refine go_iconst e0_419 (x := 2) rfl ?_
          refine go_static_6 e0_420 (wd 19 rfl) (wd 20 rfl) (wd 21 rfl) (wd 4 rfl) hy_1 pd_7 rfl (c_same1 hw (n := 5) (s1 := 0) (i := 2) (K := 2) rfl rfl (by decide) (by decide) (by decide) (by decide) (by decide) (by decide) (by decide) rfl o2) rfl 0 rfl (by decide) (by decide) (by decide) (by decide) ?_
          rintro _ _ ⟨rfl, rfl⟩
          try simp only [List.replicate_succ, List.replicate_zero, List.set_cons_zero, List.set_cons_succ, List.length_nil, List.length_cons, Nat.zero_add, Nat.reduceAdd, List.nil_append, List.cons_append]
          refine go_ifeqN e0_423 (tg := 460) (by decide) (by decide) ?_
          refine go_aload e0_426 rfl rfl ?_
          refine go_aload e0_428 rfl rfl ?_
          refine go_iload e0_430 rfl ?_
          refine go_iconst e0_432 (x := 0) rfl ?_
          refine go_iconst e0_433 (x := 1) rfl ?_
          refine go_iconst e0_434 (x := 3) rfl ?_
          refine go_static_6 e0_435 (wd 19 rfl) (wd 20 rfl) (wd 21 rfl) (wd 4 rfl) hy_1 pd_7 rfl (c_same1 hw (n := 5) (s1 := 0) (i := 3) (K := 3) rfl rfl (by decide) (by decide) (by decide) (by decide) (by decide) (by decide) (by decide) rfl o3) rfl 0 rfl (by decide) (by decide) (by decide) (by decide) ?_
          rintro _ _ ⟨rfl, rfl⟩
          try simp only [List.replicate_succ, List.replicate_zero, List.set_cons_zero, List.set_cons_succ, List.length_nil, List.length_cons, Nat.zero_add, Nat.reduceAdd, List.nil_append, List.cons_append]
          refine go_ifeqN e0_438 (tg := 460) (by decide) (by decide) ?_
          refine go_aload e0_441 rfl rfl ?_
          refine go_aload e0_443 rfl rfl ?_
          refine go_iload e0_445 rfl ?_
          refine go_iconst e0_447 (x := 0) rfl ?_
          refine go_iconst e0_448 (x := 1) rfl ?_
          refine go_iconst e0_449 (x := 4) rfl ?_
          refine go_static_6 e0_450 (wd 19 rfl) (wd 20 rfl) (wd 21 rfl) (wd 4 rfl) hy_1 pd_7 rfl (c_same1 hw (n := 5) (s1 := 0) (i := 4) (K := 4) rfl rfl (by decide) (by decide) (by decide) (by decide) (by decide) (by decide) (by decide) rfl o4) rfl 0 rfl (by decide) (by decide) (by decide) (by decide) ?_
          rintro _ _ ⟨rfl, rfl⟩
          try simp only [List.replicate_succ, List.replicate_zero, List.set_cons_zero, List.set_cons_succ, List.length_nil, List.length_cons, Nat.zero_add, Nat.reduceAdd, List.nil_append, List.cons_append]
          refine go_ifeqN e0_453 (tg := 460) (by decide) (by decide) ?_
          refine go_iconst e0_456 (x := 1) rfl ?_
          refine go_goto e0_457 (tg := 461) (by decide) ?_
          refine go_istore_16 e0_461 rfl ?_
          refine go_aload e0_463 rfl rfl ?_
          refine go_aload e0_465 rfl rfl ?_
          refine go_iload e0_467 rfl ?_
          refine go_iload e0_469 rfl ?_
          refine go_iload e0_471 rfl ?_
          refine go_iconst e0_473 (x := 0) rfl ?_
          refine go_static_6 e0_474 (wd 19 rfl) (wd 20 rfl) (wd 21 rfl) (wd 4 rfl) hy_1 pd_7 rfl (c_same1 hw (n := 5) (s1 := 4) (i := 0) (K := 4) rfl rfl (by decide) (by decide) (by decide) (by decide) (by decide) (by decide) (by decide) rfl rfl) rfl 0 rfl (by decide) (by decide) (by decide) (by decide) ?_
          rintro _ _ ⟨rfl, rfl⟩
          try simp only [List.replicate_succ, List.replicate_zero, List.set_cons_zero, List.set_cons_succ, List.length_nil, List.length_cons, Nat.zero_add, Nat.reduceAdd, List.nil_append, List.cons_append]
          refine go_ifeqN e0_477 (tg := 552) (by decide) (by decide) ?_
          refine go_aload e0_480 rfl rfl ?_
          refine go_aload e0_482 rfl rfl ?_
          refine go_iload e0_484 rfl ?_
          refine go_iload e0_486 rfl ?_
          refine go_iload e0_488 rfl ?_
          refine go_iconst e0_490 (x := 1) rfl ?_
          refine go_static_6 e0_491 (wd 19 rfl) (wd 20 rfl) (wd 21 rfl) (wd 4 rfl) hy_1 pd_7 rfl (c_same1 hw (n := 5) (s1 := 4) (i := 1) (K := 0) rfl rfl (by decide) (by decide) (by decide) (by decide) (by decide) (by decide) (by decide) rfl rfl) rfl 0 rfl (by decide) (by decide) (by decide) (by decide) ?_
          rintro _ _ ⟨rfl, rfl⟩
          try simp only [List.replicate_succ, List.replicate_zero, List.set_cons_zero, List.set_cons_succ, List.length_nil, List.length_cons, Nat.zero_add, Nat.reduceAdd, List.nil_append, List.cons_append]
          refine go_ifeqN e0_494 (tg := 552) (by decide) (by decide) ?_
          refine go_aload e0_497 rfl rfl ?_
          refine go_aload e0_499 rfl rfl ?_
          refine go_iload e0_501 rfl ?_
          refine go_iload e0_503 rfl ?_
          refine go_iload e0_505 rfl ?_
          refine go_iconst e0_507 (x := 2) rfl ?_
          refine go_static_6 e0_508 (wd 19 rfl) (wd 20 rfl) (wd 21 rfl) (wd 4 rfl) hy_1 pd_7 rfl (c_same1 hw (n := 5) (s1 := 4) (i := 2) (K := 1) rfl rfl (by decide) (by decide) (by decide) (by decide) (by decide) (by decide) (by decide) rfl rfl) rfl 0 rfl (by decide) (by decide) (by decide) (by decide) ?_
          rintro _ _ ⟨rfl, rfl⟩
          try simp only [List.replicate_succ, List.replicate_zero, List.set_cons_zero, List.set_cons_succ, List.length_nil, List.length_cons, Nat.zero_add, Nat.reduceAdd, List.nil_append, List.cons_append]
          refine go_ifeqN e0_511 (tg := 552) (by decide) (by decide) ?_
          refine go_aload e0_514 rfl rfl ?_
          refine go_aload e0_516 rfl rfl ?_
          refine go_iload e0_518 rfl ?_
          refine go_iload e0_520 rfl ?_
          refine go_iload e0_522 rfl ?_
          refine go_iconst e0_524 (x := 3) rfl ?_
          refine go_static_6 e0_525 (wd 19 rfl) (wd 20 rfl) (wd 21 rfl) (wd 4 rfl) hy_1 pd_7 rfl (c_same1 hw (n := 5) (s1 := 4) (i := 3) (K := 2) rfl rfl (by decide) (by decide) (by decide) (by decide) (by decide) (by decide) (by decide) rfl rfl) rfl 0 rfl (by decide) (by decide) (by decide) (by decide) ?_
          rintro _ _ ⟨rfl, rfl⟩
          try simp only [List.replicate_succ, List.replicate_zero, List.set_cons_zero, List.set_cons_succ, List.length_nil, List.length_cons, Nat.zero_add, Nat.reduceAdd, List.nil_append, List.cons_append]
          refine go_ifeqN e0_528 (tg := 552) (by decide) (by decide) ?_
          refine go_aload e0_531 rfl rfl ?_
          refine go_aload e0_533 rfl rfl ?_
          refine go_iload e0_535 rfl ?_
          refine go_iload e0_537 rfl ?_
          refine go_iload e0_539 rfl ?_
          refine go_iconst e0_541 (x := 4) rfl ?_
          refine go_static_6 e0_542 (wd 19 rfl) (wd 20 rfl) (wd 21 rfl) (wd 4 rfl) hy_1 pd_7 rfl (c_same1 hw (n := 5) (s1 := 4) (i := 4) (K := 3) rfl rfl (by decide) (by decide) (by decide) (by decide) (by decide) (by decide) (by decide) rfl rfl) rfl 0 rfl (by decide) (by decide) (by decide) (by decide) ?_
          rintro _ _ ⟨rfl, rfl⟩
          try simp only [List.replicate_succ, List.replicate_zero, List.set_cons_zero, List.set_cons_succ, List.length_nil, List.length_cons, Nat.zero_add, Nat.reduceAdd, List.nil_append, List.cons_append]
          refine go_ifeqN e0_545 (tg := 552) (by decide) (by decide) ?_
          refine go_iconst e0_548 (x := 1) rfl ?_
          refine go_goto e0_549 (tg := 553) (by decide) ?_
          refine go_istore_17 e0_553 rfl ?_
          refine go_iload e0_555 rfl ?_
          refine go_ifeqN e0_557 (tg := 569) (by decide) (by decide) ?_
          refine go_iload e0_560 rfl ?_
          refine go_ifeqN e0_562 (tg := 569) (by decide) (by decide) ?_
          refine go_iconst e0_565 (x := 1) rfl ?_
          refine go_goto e0_566 (tg := 570) (by decide) ?_
          refine go_zreturn e0_570 rfl (by decide) (by decide) (by decide) ?_
          exact rfl
    have J4 : ∀ (q1 q2 q3 q4 : Int32) (ps : List Value) (k9 : Int32) (hq1 : ¬ q1 = 0) (hq2 : ¬ q2 = 0) (hq3 : ¬ q3 = 0) (hq4 : ¬ q4 = 0) (hne : q1.toInt ≠ q4.toInt), Go C 173 [.val (.int i0), .val (.int i1), .val (.int i2), .val (.int i3), .val (.int 5), .val (.int 4), .val (.int c6), .val (.ref 0), .val (.ref 1), .val (.int k9), .unset, .unset, .unset, .unset, .unset, .unset, .unset, .unset] [] [ar .int ps, ar .int [.int q1, .int q2, .int q3, .int q4]] 2 8 := by
      intro q1 q2 q3 q4 ps k9 hq1 hq2 hq3 hq4 hne
      refine go_iload e0_173 rfl ?_
      refine go_iconst e0_175 (x := 2) rfl ?_
      refine go_icltN e0_176 (tg := 197) (by decide) (by decide) ?_
      refine go_aload e0_179 rfl rfl ?_
      refine go_iconst e0_181 (x := 0) rfl ?_
      refine go_iaload e0_182 rfl (k := 0) (by decide) rfl ?_
      refine go_aload e0_183 rfl rfl ?_
      refine go_iload e0_185 rfl ?_
      refine go_iconst e0_187 (x := 1) rfl ?_
      refine go_isub e0_188 ?_
      refine go_iaload e0_189 rfl (k := 3) (by decide) rfl ?_
      refine go_icle e0_190 (tg := 197) (by decide) ?_ ?_
      · intro c190
        refine go_iconst e0_197 (x := 0) rfl ?_
        refine go_istore_10 e0_198 rfl ?_
        refine go_iload e0_200 rfl ?_
        refine go_newarray e0_202 (wd 1 rfl) (k := 5) rfl (vs := [.int 0, .int 0, .int 0, .int 0, .int 0]) rfl (cap := 5) (by decide) (by decide) (by decide) (by decide) ?_
        simp only [List.replicate_succ, List.replicate_zero, List.set_cons_zero, List.set_cons_succ, List.length_nil, List.length_cons, Nat.zero_add, Nat.reduceAdd, List.nil_append, List.cons_append]
        refine go_astore_11 e0_204 rfl rfl ?_
        refine go_aload e0_206 rfl rfl ?_
        refine go_iconst e0_208 (x := 0) rfl ?_
        refine go_iconst e0_209 (x := 0) rfl ?_
        refine go_iastore e0_210 rfl (k := 0) (by decide) (Nat.le_of_ble_eq_true rfl) ?_
        simp only [List.replicate_succ, List.replicate_zero, List.set_cons_zero, List.set_cons_succ, List.length_nil, List.length_cons, Nat.zero_add, Nat.reduceAdd, List.nil_append, List.cons_append]
        refine go_aload e0_211 rfl rfl ?_
        refine go_aload e0_213 rfl rfl ?_
        refine go_iload e0_215 rfl ?_
        refine go_iconst e0_217 (x := 0) rfl ?_
        refine go_iload e0_218 rfl ?_
        refine go_staticV_5 e0_220 (wd 6 rfl) (wd 7 rfl) (wd 8 rfl) (wd 4 rfl) hy_1 pd_8 rfl (c_put1 hw (i := 0) (m0 := 4) (x0 := q1) rfl rfl (by decide) (by decide) (by decide) (by decide) (Nat.le_of_ble_eq_true rfl) (fun _ => rfl) (fun z => absurd rfl z)) rfl 0 rfl (by decide) (by decide) (by decide) (by decide) ?_
        rintro _ rfl
        try simp only [List.replicate_succ, List.replicate_zero, List.set_cons_zero, List.set_cons_succ, List.length_nil, List.length_cons, Nat.zero_add, Nat.reduceAdd, List.nil_append, List.cons_append]
        refine go_aload e0_223 rfl rfl ?_
        refine go_aload e0_225 rfl rfl ?_
        refine go_iload e0_227 rfl ?_
        refine go_iconst e0_229 (x := 1) rfl ?_
        refine go_iload e0_230 rfl ?_
        refine go_staticV_5 e0_232 (wd 6 rfl) (wd 7 rfl) (wd 8 rfl) (wd 4 rfl) hy_1 pd_8 rfl (c_put1 hw (i := 1) (m0 := 4) (x0 := q2) rfl rfl (by decide) (by decide) (by decide) (by decide) (Nat.le_of_ble_eq_true rfl) (fun _ => rfl) (fun z => absurd rfl z)) rfl 0 rfl (by decide) (by decide) (by decide) (by decide) ?_
        rintro _ rfl
        try simp only [List.replicate_succ, List.replicate_zero, List.set_cons_zero, List.set_cons_succ, List.length_nil, List.length_cons, Nat.zero_add, Nat.reduceAdd, List.nil_append, List.cons_append]
        refine go_aload e0_235 rfl rfl ?_
        refine go_aload e0_237 rfl rfl ?_
        refine go_iload e0_239 rfl ?_
        refine go_iconst e0_241 (x := 2) rfl ?_
        refine go_iload e0_242 rfl ?_
        refine go_staticV_5 e0_244 (wd 6 rfl) (wd 7 rfl) (wd 8 rfl) (wd 4 rfl) hy_1 pd_8 rfl (c_put1 hw (i := 2) (m0 := 4) (x0 := q3) rfl rfl (by decide) (by decide) (by decide) (by decide) (Nat.le_of_ble_eq_true rfl) (fun _ => rfl) (fun z => absurd rfl z)) rfl 0 rfl (by decide) (by decide) (by decide) (by decide) ?_
        rintro _ rfl
        try simp only [List.replicate_succ, List.replicate_zero, List.set_cons_zero, List.set_cons_succ, List.length_nil, List.length_cons, Nat.zero_add, Nat.reduceAdd, List.nil_append, List.cons_append]
        refine go_aload e0_247 rfl rfl ?_
        refine go_aload e0_249 rfl rfl ?_
        refine go_iload e0_251 rfl ?_
        refine go_iconst e0_253 (x := 3) rfl ?_
        refine go_iload e0_254 rfl ?_
        refine go_staticV_5 e0_256 (wd 6 rfl) (wd 7 rfl) (wd 8 rfl) (wd 4 rfl) hy_1 pd_8 rfl (c_put1 hw (i := 3) (m0 := 4) (x0 := q4) rfl rfl (by decide) (by decide) (by decide) (by decide) (Nat.le_of_ble_eq_true rfl) (fun _ => rfl) (fun z => absurd rfl z)) rfl 0 rfl (by decide) (by decide) (by decide) (by decide) ?_
        rintro _ rfl
        try simp only [List.replicate_succ, List.replicate_zero, List.set_cons_zero, List.set_cons_succ, List.length_nil, List.length_cons, Nat.zero_add, Nat.reduceAdd, List.nil_append, List.cons_append]
        exact J5 q1 q2 q3 q4 _ _ _ _ hq1 hq2 hq3 hq4 (by omega)
      · intro c190
        refine go_iconst e0_193 (x := 1) rfl ?_
        refine go_goto e0_194 (tg := 198) (by decide) ?_
        refine go_istore_10 e0_198 rfl ?_
        refine go_iload e0_200 rfl ?_
        refine go_newarray e0_202 (wd 1 rfl) (k := 5) rfl (vs := [.int 0, .int 0, .int 0, .int 0, .int 0]) rfl (cap := 5) (by decide) (by decide) (by decide) (by decide) ?_
        simp only [List.replicate_succ, List.replicate_zero, List.set_cons_zero, List.set_cons_succ, List.length_nil, List.length_cons, Nat.zero_add, Nat.reduceAdd, List.nil_append, List.cons_append]
        refine go_astore_11 e0_204 rfl rfl ?_
        refine go_aload e0_206 rfl rfl ?_
        refine go_iconst e0_208 (x := 0) rfl ?_
        refine go_iconst e0_209 (x := 0) rfl ?_
        refine go_iastore e0_210 rfl (k := 0) (by decide) (Nat.le_of_ble_eq_true rfl) ?_
        simp only [List.replicate_succ, List.replicate_zero, List.set_cons_zero, List.set_cons_succ, List.length_nil, List.length_cons, Nat.zero_add, Nat.reduceAdd, List.nil_append, List.cons_append]
        refine go_aload e0_211 rfl rfl ?_
        refine go_aload e0_213 rfl rfl ?_
        refine go_iload e0_215 rfl ?_
        refine go_iconst e0_217 (x := 0) rfl ?_
        refine go_iload e0_218 rfl ?_
        refine go_staticV_5 e0_220 (wd 6 rfl) (wd 7 rfl) (wd 8 rfl) (wd 4 rfl) hy_1 pd_8 rfl (c_put1 hw (i := 0) (m0 := 4) (x0 := q4) rfl rfl (by decide) (by decide) (by decide) (by decide) (Nat.le_of_ble_eq_true rfl) (fun z => absurd z (by decide)) (fun _ => rfl)) rfl 0 rfl (by decide) (by decide) (by decide) (by decide) ?_
        rintro _ rfl
        try simp only [List.replicate_succ, List.replicate_zero, List.set_cons_zero, List.set_cons_succ, List.length_nil, List.length_cons, Nat.zero_add, Nat.reduceAdd, List.nil_append, List.cons_append]
        refine go_aload e0_223 rfl rfl ?_
        refine go_aload e0_225 rfl rfl ?_
        refine go_iload e0_227 rfl ?_
        refine go_iconst e0_229 (x := 1) rfl ?_
        refine go_iload e0_230 rfl ?_
        refine go_staticV_5 e0_232 (wd 6 rfl) (wd 7 rfl) (wd 8 rfl) (wd 4 rfl) hy_1 pd_8 rfl (c_put1 hw (i := 1) (m0 := 4) (x0 := q3) rfl rfl (by decide) (by decide) (by decide) (by decide) (Nat.le_of_ble_eq_true rfl) (fun z => absurd z (by decide)) (fun _ => rfl)) rfl 0 rfl (by decide) (by decide) (by decide) (by decide) ?_
        rintro _ rfl
        try simp only [List.replicate_succ, List.replicate_zero, List.set_cons_zero, List.set_cons_succ, List.length_nil, List.length_cons, Nat.zero_add, Nat.reduceAdd, List.nil_append, List.cons_append]
        refine go_aload e0_235 rfl rfl ?_
        refine go_aload e0_237 rfl rfl ?_
        refine go_iload e0_239 rfl ?_
        refine go_iconst e0_241 (x := 2) rfl ?_
        refine go_iload e0_242 rfl ?_
        refine go_staticV_5 e0_244 (wd 6 rfl) (wd 7 rfl) (wd 8 rfl) (wd 4 rfl) hy_1 pd_8 rfl (c_put1 hw (i := 2) (m0 := 4) (x0 := q2) rfl rfl (by decide) (by decide) (by decide) (by decide) (Nat.le_of_ble_eq_true rfl) (fun z => absurd z (by decide)) (fun _ => rfl)) rfl 0 rfl (by decide) (by decide) (by decide) (by decide) ?_
        rintro _ rfl
        try simp only [List.replicate_succ, List.replicate_zero, List.set_cons_zero, List.set_cons_succ, List.length_nil, List.length_cons, Nat.zero_add, Nat.reduceAdd, List.nil_append, List.cons_append]
        refine go_aload e0_247 rfl rfl ?_
        refine go_aload e0_249 rfl rfl ?_
        refine go_iload e0_251 rfl ?_
        refine go_iconst e0_253 (x := 3) rfl ?_
        refine go_iload e0_254 rfl ?_
        refine go_staticV_5 e0_256 (wd 6 rfl) (wd 7 rfl) (wd 8 rfl) (wd 4 rfl) hy_1 pd_8 rfl (c_put1 hw (i := 3) (m0 := 4) (x0 := q1) rfl rfl (by decide) (by decide) (by decide) (by decide) (Nat.le_of_ble_eq_true rfl) (fun z => absurd z (by decide)) (fun _ => rfl)) rfl 0 rfl (by decide) (by decide) (by decide) (by decide) ?_
        rintro _ rfl
        try simp only [List.replicate_succ, List.replicate_zero, List.set_cons_zero, List.set_cons_succ, List.length_nil, List.length_cons, Nat.zero_add, Nat.reduceAdd, List.nil_append, List.cons_append]
        exact J5 q4 q3 q2 q1 _ _ _ _ hq4 hq3 hq2 hq1 (by omega)
    have J3 : ∀ (p0 p1 p2 p3 : Int32), D4 p0 p1 p2 p3 → Go C 89 [.val (.int i0), .val (.int i1), .val (.int i2), .val (.int i3), .val (.int 5), .val (.int 4), .val (.int c6), .val (.ref 0), .val (.ref 1), .val (.int 0), .unset, .unset, .unset, .unset, .unset, .unset, .unset, .unset] [] [ar .int [.int p0, .int p1, .int p2, .int p3], ar .int [.int 0, .int 0, .int 0, .int 0]] 2 8 := by
      intro p0 p1 p2 p3 hD
      unfold D4 at hD
      have km : (4 : Int32).toInt = 4 := rfl
      refine go_aload e0_89 rfl rfl ?_
      refine go_iconst e0_91 (x := 0) rfl ?_
      refine go_iaload e0_92 rfl (k := 0) (by decide) rfl ?_
      refine go_iload e0_93 rfl ?_
      refine go_icgt e0_95 (tg := 110) (by decide) ?_ ?_
      · intro c95
        refine go_aload e0_110 rfl rfl ?_
        refine go_iconst e0_112 (x := 1) rfl ?_
        refine go_iaload e0_113 rfl (k := 1) (by decide) rfl ?_
        refine go_iload e0_114 rfl ?_
        refine go_icgt e0_116 (tg := 131) (by decide) ?_ ?_
        · intro c116
          refine go_aload e0_131 rfl rfl ?_
          refine go_iconst e0_133 (x := 2) rfl ?_
          refine go_iaload e0_134 rfl (k := 2) (by decide) rfl ?_
          refine go_iload e0_135 rfl ?_
          refine go_icgt e0_137 (tg := 152) (by decide) ?_ ?_
          · intro c137
            refine go_aload e0_152 rfl rfl ?_
            refine go_iconst e0_154 (x := 3) rfl ?_
            refine go_iaload e0_155 rfl (k := 3) (by decide) rfl ?_
            refine go_iload e0_156 rfl ?_
            refine go_icgt e0_158 (tg := 173) (by decide) ?_ ?_
            · intro c158
              exfalso; omega
            · intro c158
              refine go_aload e0_161 rfl rfl ?_
              refine go_iload e0_163 rfl ?_
              refine go_aload e0_165 rfl rfl ?_
              refine go_iconst e0_167 (x := 3) rfl ?_
              refine go_iaload e0_168 rfl (k := 3) (by decide) rfl ?_
              refine go_iastore e0_169 rfl (k := 0) (by decide) (Nat.le_of_ble_eq_true rfl) ?_
              simp only [List.replicate_succ, List.replicate_zero, List.set_cons_zero, List.set_cons_succ, List.length_nil, List.length_cons, Nat.zero_add, Nat.reduceAdd, List.nil_append, List.cons_append]
              refine go_iinc_9 e0_170 (z := 1) rfl ?_
              exfalso; omega
          · intro c137
            refine go_aload e0_140 rfl rfl ?_
            refine go_iload e0_142 rfl ?_
            refine go_aload e0_144 rfl rfl ?_
            refine go_iconst e0_146 (x := 2) rfl ?_
            refine go_iaload e0_147 rfl (k := 2) (by decide) rfl ?_
            refine go_iastore e0_148 rfl (k := 0) (by decide) (Nat.le_of_ble_eq_true rfl) ?_
            simp only [List.replicate_succ, List.replicate_zero, List.set_cons_zero, List.set_cons_succ, List.length_nil, List.length_cons, Nat.zero_add, Nat.reduceAdd, List.nil_append, List.cons_append]
            refine go_iinc_9 e0_149 (z := 1) rfl ?_
            refine go_aload e0_152 rfl rfl ?_
            refine go_iconst e0_154 (x := 3) rfl ?_
            refine go_iaload e0_155 rfl (k := 3) (by decide) rfl ?_
            refine go_iload e0_156 rfl ?_
            refine go_icgt e0_158 (tg := 173) (by decide) ?_ ?_
            · intro c158
              exfalso; omega
            · intro c158
              refine go_aload e0_161 rfl rfl ?_
              refine go_iload e0_163 rfl ?_
              refine go_aload e0_165 rfl rfl ?_
              refine go_iconst e0_167 (x := 3) rfl ?_
              refine go_iaload e0_168 rfl (k := 3) (by decide) rfl ?_
              refine go_iastore e0_169 rfl (k := 1) (by decide) (Nat.le_of_ble_eq_true rfl) ?_
              simp only [List.replicate_succ, List.replicate_zero, List.set_cons_zero, List.set_cons_succ, List.length_nil, List.length_cons, Nat.zero_add, Nat.reduceAdd, List.nil_append, List.cons_append]
              refine go_iinc_9 e0_170 (z := 1) rfl ?_
              exfalso; omega
        · intro c116
          refine go_aload e0_119 rfl rfl ?_
          refine go_iload e0_121 rfl ?_
          refine go_aload e0_123 rfl rfl ?_
          refine go_iconst e0_125 (x := 1) rfl ?_
          refine go_iaload e0_126 rfl (k := 1) (by decide) rfl ?_
          refine go_iastore e0_127 rfl (k := 0) (by decide) (Nat.le_of_ble_eq_true rfl) ?_
          simp only [List.replicate_succ, List.replicate_zero, List.set_cons_zero, List.set_cons_succ, List.length_nil, List.length_cons, Nat.zero_add, Nat.reduceAdd, List.nil_append, List.cons_append]
          refine go_iinc_9 e0_128 (z := 1) rfl ?_
          refine go_aload e0_131 rfl rfl ?_
          refine go_iconst e0_133 (x := 2) rfl ?_
          refine go_iaload e0_134 rfl (k := 2) (by decide) rfl ?_
          refine go_iload e0_135 rfl ?_
          refine go_icgt e0_137 (tg := 152) (by decide) ?_ ?_
          · intro c137
            refine go_aload e0_152 rfl rfl ?_
            refine go_iconst e0_154 (x := 3) rfl ?_
            refine go_iaload e0_155 rfl (k := 3) (by decide) rfl ?_
            refine go_iload e0_156 rfl ?_
            refine go_icgt e0_158 (tg := 173) (by decide) ?_ ?_
            · intro c158
              exfalso; omega
            · intro c158
              refine go_aload e0_161 rfl rfl ?_
              refine go_iload e0_163 rfl ?_
              refine go_aload e0_165 rfl rfl ?_
              refine go_iconst e0_167 (x := 3) rfl ?_
              refine go_iaload e0_168 rfl (k := 3) (by decide) rfl ?_
              refine go_iastore e0_169 rfl (k := 1) (by decide) (Nat.le_of_ble_eq_true rfl) ?_
              simp only [List.replicate_succ, List.replicate_zero, List.set_cons_zero, List.set_cons_succ, List.length_nil, List.length_cons, Nat.zero_add, Nat.reduceAdd, List.nil_append, List.cons_append]
              refine go_iinc_9 e0_170 (z := 1) rfl ?_
              exfalso; omega
          · intro c137
            refine go_aload e0_140 rfl rfl ?_
            refine go_iload e0_142 rfl ?_
            refine go_aload e0_144 rfl rfl ?_
            refine go_iconst e0_146 (x := 2) rfl ?_
            refine go_iaload e0_147 rfl (k := 2) (by decide) rfl ?_
            refine go_iastore e0_148 rfl (k := 1) (by decide) (Nat.le_of_ble_eq_true rfl) ?_
            simp only [List.replicate_succ, List.replicate_zero, List.set_cons_zero, List.set_cons_succ, List.length_nil, List.length_cons, Nat.zero_add, Nat.reduceAdd, List.nil_append, List.cons_append]
            refine go_iinc_9 e0_149 (z := 1) rfl ?_
            refine go_aload e0_152 rfl rfl ?_
            refine go_iconst e0_154 (x := 3) rfl ?_
            refine go_iaload e0_155 rfl (k := 3) (by decide) rfl ?_
            refine go_iload e0_156 rfl ?_
            refine go_icgt e0_158 (tg := 173) (by decide) ?_ ?_
            · intro c158
              exfalso; omega
            · intro c158
              refine go_aload e0_161 rfl rfl ?_
              refine go_iload e0_163 rfl ?_
              refine go_aload e0_165 rfl rfl ?_
              refine go_iconst e0_167 (x := 3) rfl ?_
              refine go_iaload e0_168 rfl (k := 3) (by decide) rfl ?_
              refine go_iastore e0_169 rfl (k := 2) (by decide) (Nat.le_of_ble_eq_true rfl) ?_
              simp only [List.replicate_succ, List.replicate_zero, List.set_cons_zero, List.set_cons_succ, List.length_nil, List.length_cons, Nat.zero_add, Nat.reduceAdd, List.nil_append, List.cons_append]
              refine go_iinc_9 e0_170 (z := 1) rfl ?_
              exfalso; omega
      · intro c95
        refine go_aload e0_98 rfl rfl ?_
        refine go_iload e0_100 rfl ?_
        refine go_aload e0_102 rfl rfl ?_
        refine go_iconst e0_104 (x := 0) rfl ?_
        refine go_iaload e0_105 rfl (k := 0) (by decide) rfl ?_
        refine go_iastore e0_106 rfl (k := 0) (by decide) (Nat.le_of_ble_eq_true rfl) ?_
        simp only [List.replicate_succ, List.replicate_zero, List.set_cons_zero, List.set_cons_succ, List.length_nil, List.length_cons, Nat.zero_add, Nat.reduceAdd, List.nil_append, List.cons_append]
        refine go_iinc_9 e0_107 (z := 1) rfl ?_
        refine go_aload e0_110 rfl rfl ?_
        refine go_iconst e0_112 (x := 1) rfl ?_
        refine go_iaload e0_113 rfl (k := 1) (by decide) rfl ?_
        refine go_iload e0_114 rfl ?_
        refine go_icgt e0_116 (tg := 131) (by decide) ?_ ?_
        · intro c116
          refine go_aload e0_131 rfl rfl ?_
          refine go_iconst e0_133 (x := 2) rfl ?_
          refine go_iaload e0_134 rfl (k := 2) (by decide) rfl ?_
          refine go_iload e0_135 rfl ?_
          refine go_icgt e0_137 (tg := 152) (by decide) ?_ ?_
          · intro c137
            refine go_aload e0_152 rfl rfl ?_
            refine go_iconst e0_154 (x := 3) rfl ?_
            refine go_iaload e0_155 rfl (k := 3) (by decide) rfl ?_
            refine go_iload e0_156 rfl ?_
            refine go_icgt e0_158 (tg := 173) (by decide) ?_ ?_
            · intro c158
              exfalso; omega
            · intro c158
              refine go_aload e0_161 rfl rfl ?_
              refine go_iload e0_163 rfl ?_
              refine go_aload e0_165 rfl rfl ?_
              refine go_iconst e0_167 (x := 3) rfl ?_
              refine go_iaload e0_168 rfl (k := 3) (by decide) rfl ?_
              refine go_iastore e0_169 rfl (k := 1) (by decide) (Nat.le_of_ble_eq_true rfl) ?_
              simp only [List.replicate_succ, List.replicate_zero, List.set_cons_zero, List.set_cons_succ, List.length_nil, List.length_cons, Nat.zero_add, Nat.reduceAdd, List.nil_append, List.cons_append]
              refine go_iinc_9 e0_170 (z := 1) rfl ?_
              exfalso; omega
          · intro c137
            refine go_aload e0_140 rfl rfl ?_
            refine go_iload e0_142 rfl ?_
            refine go_aload e0_144 rfl rfl ?_
            refine go_iconst e0_146 (x := 2) rfl ?_
            refine go_iaload e0_147 rfl (k := 2) (by decide) rfl ?_
            refine go_iastore e0_148 rfl (k := 1) (by decide) (Nat.le_of_ble_eq_true rfl) ?_
            simp only [List.replicate_succ, List.replicate_zero, List.set_cons_zero, List.set_cons_succ, List.length_nil, List.length_cons, Nat.zero_add, Nat.reduceAdd, List.nil_append, List.cons_append]
            refine go_iinc_9 e0_149 (z := 1) rfl ?_
            refine go_aload e0_152 rfl rfl ?_
            refine go_iconst e0_154 (x := 3) rfl ?_
            refine go_iaload e0_155 rfl (k := 3) (by decide) rfl ?_
            refine go_iload e0_156 rfl ?_
            refine go_icgt e0_158 (tg := 173) (by decide) ?_ ?_
            · intro c158
              exfalso; omega
            · intro c158
              refine go_aload e0_161 rfl rfl ?_
              refine go_iload e0_163 rfl ?_
              refine go_aload e0_165 rfl rfl ?_
              refine go_iconst e0_167 (x := 3) rfl ?_
              refine go_iaload e0_168 rfl (k := 3) (by decide) rfl ?_
              refine go_iastore e0_169 rfl (k := 2) (by decide) (Nat.le_of_ble_eq_true rfl) ?_
              simp only [List.replicate_succ, List.replicate_zero, List.set_cons_zero, List.set_cons_succ, List.length_nil, List.length_cons, Nat.zero_add, Nat.reduceAdd, List.nil_append, List.cons_append]
              refine go_iinc_9 e0_170 (z := 1) rfl ?_
              exfalso; omega
        · intro c116
          refine go_aload e0_119 rfl rfl ?_
          refine go_iload e0_121 rfl ?_
          refine go_aload e0_123 rfl rfl ?_
          refine go_iconst e0_125 (x := 1) rfl ?_
          refine go_iaload e0_126 rfl (k := 1) (by decide) rfl ?_
          refine go_iastore e0_127 rfl (k := 1) (by decide) (Nat.le_of_ble_eq_true rfl) ?_
          simp only [List.replicate_succ, List.replicate_zero, List.set_cons_zero, List.set_cons_succ, List.length_nil, List.length_cons, Nat.zero_add, Nat.reduceAdd, List.nil_append, List.cons_append]
          refine go_iinc_9 e0_128 (z := 1) rfl ?_
          refine go_aload e0_131 rfl rfl ?_
          refine go_iconst e0_133 (x := 2) rfl ?_
          refine go_iaload e0_134 rfl (k := 2) (by decide) rfl ?_
          refine go_iload e0_135 rfl ?_
          refine go_icgt e0_137 (tg := 152) (by decide) ?_ ?_
          · intro c137
            refine go_aload e0_152 rfl rfl ?_
            refine go_iconst e0_154 (x := 3) rfl ?_
            refine go_iaload e0_155 rfl (k := 3) (by decide) rfl ?_
            refine go_iload e0_156 rfl ?_
            refine go_icgt e0_158 (tg := 173) (by decide) ?_ ?_
            · intro c158
              exfalso; omega
            · intro c158
              refine go_aload e0_161 rfl rfl ?_
              refine go_iload e0_163 rfl ?_
              refine go_aload e0_165 rfl rfl ?_
              refine go_iconst e0_167 (x := 3) rfl ?_
              refine go_iaload e0_168 rfl (k := 3) (by decide) rfl ?_
              refine go_iastore e0_169 rfl (k := 2) (by decide) (Nat.le_of_ble_eq_true rfl) ?_
              simp only [List.replicate_succ, List.replicate_zero, List.set_cons_zero, List.set_cons_succ, List.length_nil, List.length_cons, Nat.zero_add, Nat.reduceAdd, List.nil_append, List.cons_append]
              refine go_iinc_9 e0_170 (z := 1) rfl ?_
              exfalso; omega
          · intro c137
            refine go_aload e0_140 rfl rfl ?_
            refine go_iload e0_142 rfl ?_
            refine go_aload e0_144 rfl rfl ?_
            refine go_iconst e0_146 (x := 2) rfl ?_
            refine go_iaload e0_147 rfl (k := 2) (by decide) rfl ?_
            refine go_iastore e0_148 rfl (k := 2) (by decide) (Nat.le_of_ble_eq_true rfl) ?_
            simp only [List.replicate_succ, List.replicate_zero, List.set_cons_zero, List.set_cons_succ, List.length_nil, List.length_cons, Nat.zero_add, Nat.reduceAdd, List.nil_append, List.cons_append]
            refine go_iinc_9 e0_149 (z := 1) rfl ?_
            refine go_aload e0_152 rfl rfl ?_
            refine go_iconst e0_154 (x := 3) rfl ?_
            refine go_iaload e0_155 rfl (k := 3) (by decide) rfl ?_
            refine go_iload e0_156 rfl ?_
            refine go_icgt e0_158 (tg := 173) (by decide) ?_ ?_
            · intro c158
              exfalso; omega
            · intro c158
              refine go_aload e0_161 rfl rfl ?_
              refine go_iload e0_163 rfl ?_
              refine go_aload e0_165 rfl rfl ?_
              refine go_iconst e0_167 (x := 3) rfl ?_
              refine go_iaload e0_168 rfl (k := 3) (by decide) rfl ?_
              refine go_iastore e0_169 rfl (k := 3) (by decide) (Nat.le_of_ble_eq_true rfl) ?_
              simp only [List.replicate_succ, List.replicate_zero, List.set_cons_zero, List.set_cons_succ, List.length_nil, List.length_cons, Nat.zero_add, Nat.reduceAdd, List.nil_append, List.cons_append]
              refine go_iinc_9 e0_170 (z := 1) rfl ?_
              exact J4 p0 p1 p2 p3 _ _ (own_ne0 (by omega)) (own_ne0 (by omega)) (own_ne0 (by omega)) (own_ne0 (by omega)) (by omega)
    have J81 : ∀ (p0 p1 p2 p3 : Int32), D4 p0 p1 p2 p3 → Go C 81 [.val (.int i0), .val (.int i1), .val (.int i2), .val (.int i3), .val (.int 5), .val (.int 4), .val (.int c6), .val (.ref 0), .unset, .unset, .unset, .unset, .unset, .unset, .unset, .unset, .unset, .unset] [] [ar .int [.int p0, .int p1, .int p2, .int p3]] 1 4 := by
      intro p0 p1 p2 p3 hD
      refine go_iconst e0_81 (x := 4) rfl ?_
      refine go_newarray e0_82 (wd 1 rfl) (k := 4) rfl (vs := [.int 0, .int 0, .int 0, .int 0]) rfl (cap := 4) (by decide) (by decide) (by decide) (by decide) ?_
      simp only [List.replicate_succ, List.replicate_zero, List.set_cons_zero, List.set_cons_succ, List.length_nil, List.length_cons, Nat.zero_add, Nat.reduceAdd, List.nil_append, List.cons_append]
      refine go_astore_8 e0_84 rfl rfl ?_
      refine go_iconst e0_86 (x := 0) rfl ?_
      refine go_istore_9 e0_87 rfl ?_
      exact J3 _ _ _ _ hD
    have J2 : ∀ (p0 p1 p2 p3 : Int32), D4 p0 p1 p2 p3 → Go C 68 [.val (.int i0), .val (.int i1), .val (.int i2), .val (.int i3), .val (.int 5), .val (.int 4), .val (.int c6), .val (.ref 0), .unset, .unset, .unset, .unset, .unset, .unset, .unset, .unset, .unset, .unset] [] [ar .int [.int p0, .int p1, .int p2, .int p3]] 1 4 := by
      intro p0 p1 p2 p3 hD
      refine go_aload e0_68 rfl rfl ?_
      refine go_iconst e0_70 (x := 1) rfl ?_
      refine go_iload e0_71 rfl ?_
      refine go_bipush e0_73 (x := 12) rfl ?_
      refine go_idiv e0_75 (by decide) ?_
      refine go_iconst e0_76 (x := 2) rfl ?_
      refine go_irem e0_77 (by decide) ?_
      have he : (c6 / 12 % 2).toInt = 0 ∨ (c6 / 12 % 2).toInt = 1 := by
        have h0 := (c_idiv c6 12 12 (by decide) (by decide)).1 hc0
        have h1 := (c_irem (c6 / 12) 2 2 (by decide)).1 (by omega)
        omega
      rcases he with e | e
      · refine go_staticV_3 e0_78 (wd 2 rfl) (wd 3 rfl) (wd 5 rfl) (wd 4 rfl) hy_1 pd_9 rfl (c_swap hw (i := 1) (j := 0) rfl (by decide) e rfl rfl) rfl 0 rfl (by decide) (by decide) (by decide) (by decide) ?_
        rintro _ rfl
        try simp only [List.replicate_succ, List.replicate_zero, List.set_cons_zero, List.set_cons_succ, List.length_nil, List.length_cons, Nat.zero_add, Nat.reduceAdd, List.nil_append, List.cons_append]
        exact J81 p1 p0 p2 p3 (by unfold D4 at hD ⊢; omega)
      · refine go_staticV_3 e0_78 (wd 2 rfl) (wd 3 rfl) (wd 5 rfl) (wd 4 rfl) hy_1 pd_9 rfl (c_swap hw (i := 1) (j := 1) rfl (by decide) e rfl rfl) rfl 0 rfl (by decide) (by decide) (by decide) (by decide) ?_
        rintro _ rfl
        try simp only [List.replicate_succ, List.replicate_zero, List.set_cons_zero, List.set_cons_succ, List.length_nil, List.length_cons, Nat.zero_add, Nat.reduceAdd, List.nil_append, List.cons_append]
        exact J81 p0 p1 p2 p3 (by unfold D4 at hD ⊢; omega)
    have J1 : ∀ (p0 p1 p2 p3 : Int32), D4 p0 p1 p2 p3 → Go C 56 [.val (.int i0), .val (.int i1), .val (.int i2), .val (.int i3), .val (.int 5), .val (.int 4), .val (.int c6), .val (.ref 0), .unset, .unset, .unset, .unset, .unset, .unset, .unset, .unset, .unset, .unset] [] [ar .int [.int p0, .int p1, .int p2, .int p3]] 1 4 := by
      intro p0 p1 p2 p3 hD
      refine go_aload e0_56 rfl rfl ?_
      refine go_iconst e0_58 (x := 2) rfl ?_
      refine go_iload e0_59 rfl ?_
      refine go_iconst e0_61 (x := 4) rfl ?_
      refine go_idiv e0_62 (by decide) ?_
      refine go_iconst e0_63 (x := 3) rfl ?_
      refine go_irem e0_64 (by decide) ?_
      have he : (c6 / 4 % 3).toInt = 0 ∨ (c6 / 4 % 3).toInt = 1 ∨ (c6 / 4 % 3).toInt = 2 := by
        have h0 := (c_idiv c6 4 4 (by decide) (by decide)).1 hc0
        have h1 := (c_irem (c6 / 4) 3 3 (by decide)).1 (by omega)
        omega
      rcases he with e | e | e
      · refine go_staticV_3 e0_65 (wd 2 rfl) (wd 3 rfl) (wd 5 rfl) (wd 4 rfl) hy_1 pd_9 rfl (c_swap hw (i := 2) (j := 0) rfl (by decide) e rfl rfl) rfl 0 rfl (by decide) (by decide) (by decide) (by decide) ?_
        rintro _ rfl
        try simp only [List.replicate_succ, List.replicate_zero, List.set_cons_zero, List.set_cons_succ, List.length_nil, List.length_cons, Nat.zero_add, Nat.reduceAdd, List.nil_append, List.cons_append]
        exact J2 p2 p1 p0 p3 (by unfold D4 at hD ⊢; omega)
      · refine go_staticV_3 e0_65 (wd 2 rfl) (wd 3 rfl) (wd 5 rfl) (wd 4 rfl) hy_1 pd_9 rfl (c_swap hw (i := 2) (j := 1) rfl (by decide) e rfl rfl) rfl 0 rfl (by decide) (by decide) (by decide) (by decide) ?_
        rintro _ rfl
        try simp only [List.replicate_succ, List.replicate_zero, List.set_cons_zero, List.set_cons_succ, List.length_nil, List.length_cons, Nat.zero_add, Nat.reduceAdd, List.nil_append, List.cons_append]
        exact J2 p0 p2 p1 p3 (by unfold D4 at hD ⊢; omega)
      · refine go_staticV_3 e0_65 (wd 2 rfl) (wd 3 rfl) (wd 5 rfl) (wd 4 rfl) hy_1 pd_9 rfl (c_swap hw (i := 2) (j := 2) rfl (by decide) e rfl rfl) rfl 0 rfl (by decide) (by decide) (by decide) (by decide) ?_
        rintro _ rfl
        try simp only [List.replicate_succ, List.replicate_zero, List.set_cons_zero, List.set_cons_succ, List.length_nil, List.length_cons, Nat.zero_add, Nat.reduceAdd, List.nil_append, List.cons_append]
        exact J2 p0 p1 p2 p3 (by unfold D4 at hD ⊢; omega)
    refine go_iconst e0_25 (x := 4) rfl ?_
    refine go_newarray e0_26 (wd 1 rfl) (k := 4) rfl (vs := [.int 0, .int 0, .int 0, .int 0]) rfl (cap := 4) (by decide) (by decide) (by decide) (by decide) ?_
    simp only [List.replicate_succ, List.replicate_zero, List.set_cons_zero, List.set_cons_succ, List.length_nil, List.length_cons, Nat.zero_add, Nat.reduceAdd, List.nil_append, List.cons_append]
    refine go_dup e0_28 rfl ?_
    refine go_iconst e0_29 (x := 0) rfl ?_
    refine go_iconst e0_30 (x := 1) rfl ?_
    refine go_iastore e0_31 rfl (k := 0) (by decide) (Nat.le_of_ble_eq_true rfl) ?_
    simp only [List.replicate_succ, List.replicate_zero, List.set_cons_zero, List.set_cons_succ, List.length_nil, List.length_cons, Nat.zero_add, Nat.reduceAdd, List.nil_append, List.cons_append]
    refine go_dup e0_32 rfl ?_
    refine go_iconst e0_33 (x := 1) rfl ?_
    refine go_iconst e0_34 (x := 2) rfl ?_
    refine go_iastore e0_35 rfl (k := 1) (by decide) (Nat.le_of_ble_eq_true rfl) ?_
    simp only [List.replicate_succ, List.replicate_zero, List.set_cons_zero, List.set_cons_succ, List.length_nil, List.length_cons, Nat.zero_add, Nat.reduceAdd, List.nil_append, List.cons_append]
    refine go_dup e0_36 rfl ?_
    refine go_iconst e0_37 (x := 2) rfl ?_
    refine go_iconst e0_38 (x := 3) rfl ?_
    refine go_iastore e0_39 rfl (k := 2) (by decide) (Nat.le_of_ble_eq_true rfl) ?_
    simp only [List.replicate_succ, List.replicate_zero, List.set_cons_zero, List.set_cons_succ, List.length_nil, List.length_cons, Nat.zero_add, Nat.reduceAdd, List.nil_append, List.cons_append]
    refine go_dup e0_40 rfl ?_
    refine go_iconst e0_41 (x := 3) rfl ?_
    refine go_iconst e0_42 (x := 4) rfl ?_
    refine go_iastore e0_43 rfl (k := 3) (by decide) (Nat.le_of_ble_eq_true rfl) ?_
    simp only [List.replicate_succ, List.replicate_zero, List.set_cons_zero, List.set_cons_succ, List.length_nil, List.length_cons, Nat.zero_add, Nat.reduceAdd, List.nil_append, List.cons_append]
    refine go_astore_7 e0_44 rfl rfl ?_
    refine go_aload e0_46 rfl rfl ?_
    refine go_iconst e0_48 (x := 3) rfl ?_
    refine go_iload e0_49 rfl ?_
    refine go_iconst e0_51 (x := 4) rfl ?_
    refine go_irem e0_52 (by decide) ?_
    have he : (c6 % 4).toInt = 0 ∨ (c6 % 4).toInt = 1 ∨ (c6 % 4).toInt = 2 ∨ (c6 % 4).toInt = 3 := by
      have h1 := (c_irem c6 4 4 (by decide)).1 hc0
      omega
    rcases he with e | e | e | e
    · refine go_staticV_3 e0_53 (wd 2 rfl) (wd 3 rfl) (wd 5 rfl) (wd 4 rfl) hy_1 pd_9 rfl (c_swap hw (i := 3) (j := 0) rfl (by decide) e rfl rfl) rfl 0 rfl (by decide) (by decide) (by decide) (by decide) ?_
      rintro _ rfl
      try simp only [List.replicate_succ, List.replicate_zero, List.set_cons_zero, List.set_cons_succ, List.length_nil, List.length_cons, Nat.zero_add, Nat.reduceAdd, List.nil_append, List.cons_append]
      exact J1 4 2 3 1 (by decide)
    · refine go_staticV_3 e0_53 (wd 2 rfl) (wd 3 rfl) (wd 5 rfl) (wd 4 rfl) hy_1 pd_9 rfl (c_swap hw (i := 3) (j := 1) rfl (by decide) e rfl rfl) rfl 0 rfl (by decide) (by decide) (by decide) (by decide) ?_
      rintro _ rfl
      try simp only [List.replicate_succ, List.replicate_zero, List.set_cons_zero, List.set_cons_succ, List.length_nil, List.length_cons, Nat.zero_add, Nat.reduceAdd, List.nil_append, List.cons_append]
      exact J1 1 4 3 2 (by decide)
    · refine go_staticV_3 e0_53 (wd 2 rfl) (wd 3 rfl) (wd 5 rfl) (wd 4 rfl) hy_1 pd_9 rfl (c_swap hw (i := 3) (j := 2) rfl (by decide) e rfl rfl) rfl 0 rfl (by decide) (by decide) (by decide) (by decide) ?_
      rintro _ rfl
      try simp only [List.replicate_succ, List.replicate_zero, List.set_cons_zero, List.set_cons_succ, List.length_nil, List.length_cons, Nat.zero_add, Nat.reduceAdd, List.nil_append, List.cons_append]
      exact J1 1 2 4 3 (by decide)
    · refine go_staticV_3 e0_53 (wd 2 rfl) (wd 3 rfl) (wd 5 rfl) (wd 4 rfl) hy_1 pd_9 rfl (c_swap hw (i := 3) (j := 3) rfl (by decide) e rfl rfl) rfl 0 rfl (by decide) (by decide) (by decide) (by decide) ?_
      rintro _ rfl
      try simp only [List.replicate_succ, List.replicate_zero, List.set_cons_zero, List.set_cons_succ, List.length_nil, List.length_cons, Nat.zero_add, Nat.reduceAdd, List.nil_append, List.cons_append]
      exact J1 1 2 3 4 (by decide)
set_option maxRecDepth 65536 in
set_option maxHeartbeats 40000000 in
theorem comes_1 {Post : Tables → Env → Array Value → State → Outcome → State → Prop} (hpost : ∀ tb e args s v u, (limb_1_1.after args s (.returned v) u = true ∧ limb_1_2.after args s (.returned v) u = true ∧ True) → FrameEnd s (.returned v) u (Jvm.fieldLocs frame_1_writes args s ++ Jvm.arrayLocs frame_1_arrays args s ++ Jvm.staticLocs frame_1_statics s) 24 128 → Post tb e args s (.returned v) u) :
    ArmFor flags0 classFile x code maxLocals ret World_1 tables_1 room_1 Calls_1 rest_1 Pre_1 Post := by
  intro l hfl _ _ p e ha hc hk s m args below hf hA hF happ hP
  obtain ⟨hcalls, hrest, hpre⟩ := hP
  obtain ⟨-, -, -, hnamed, -, -, -, hat⟩ := (Spec.applies_iff hf).mp happ
  obtain ⟨hg, hn⟩ := and_e (Cond.before_iff.mp (show (Jvm.Cond.and given_1 narrow_1).before args s = true from hpre))
  obtain ⟨h1, h2⟩ := and_e hg
  obtain ⟨w0, w1, w2, w3, rfl⟩ : ∃ w0 w1 w2 w3 : Value, args = #[w0, w1, w2, w3] := by
    have hs : args.size = 4 := by simpa [Cond.value, given_1] using h1
    obtain ⟨L⟩ := args
    match L, hs with
    | [w0, w1, w2, w3], _ => exact ⟨w0, w1, w2, w3, rfl⟩
  have hw := fun d (hd : d ∈ tables_1) => atoms_spec (ws := Jvm.Cond.code x code maxLocals ret :: tables_1) hat d (List.mem_cons_of_mem _ hd)
  obtain ⟨a0, b0⟩ := and_e h2
  obtain ⟨i0, e0⟩ := is_v a0
  obtain rfl : w0 = (.int i0) := Option.some.inj e0
  obtain ⟨a1, b1⟩ := and_e b0
  obtain ⟨i1, e1⟩ := is_v a1
  obtain rfl : w1 = (.int i1) := Option.some.inj e1
  obtain ⟨a2, b2⟩ := and_e b1
  obtain ⟨i2, e2⟩ := is_v a2
  obtain rfl : w2 = (.int i2) := Option.some.inj e2
  obtain ⟨i3, e3⟩ := is_v b2
  obtain rfl : w3 = (.int i3) := Option.some.inj e3
  obtain ⟨n, o, h1, h2, h3, _, L, rfl, ⟨N, v', H', rfl, -, rfl⟩, hq⟩ := law_met (l := l) (Z := s) (b := s.heap.size) hw i0 i1 i2 i3 s.heap (Rel.nil s.heap) tables_1 p e ha hc hk s m _ below hf ((Spec.applies_iff_loose hf).mp happ).1 ⟨rfl, State.Warmed39.refl s, rfl⟩ trivial
  refine ⟨n, _, h1, h2, h3, hpost _ _ _ _ _ _ ⟨Cond.after_iff.mpr rfl, Cond.after_iff.mpr (eq_i res_at (Term.int_eval (1)) rfl), trivial⟩ ⟨hq.1, hq.2.1, (hq.2.2.sift fun y hy => Or.inr (N y hy)).mono (by decide) (by decide)⟩⟩
theorem main_1_1 : Claimed_1_1 := comes_1 fun _ _ _ _ _ _ h hF => ⟨h.1, hF⟩
theorem main_1_2 : Claimed_1_2 := comes_1 fun _ _ _ _ _ _ h hF => ⟨h.2.1, hF⟩
end Jvm.Pilot.@@N@@
namespace Jvm.Pilot.@@N@@
open Jvm Jvm.ClassFile Sem Op Lib Jvm.Free Jvm.Stand Jvm.Pilot.@@N@@.Jvm.D
/-! MADE BY PROGRAM (witnessworld.py) out of the Statement's table words and the real class files: 9 classes; the members and pool entries that the words name. The judged class is class 1, her method 1. -/
namespace start1
open Jvm.ClassFile
def u (s : String) : CpInfo := .utf8 (stringToUtf16 s)
/-- a pool by its gaps: so many unusable entries, then the entry; so many at the end -/
def gap : Nat → List CpInfo → List CpInfo
  | 0, r => r
  | n + 1, r => .unusable :: gap n r
def poolList (es : List (Nat × CpInfo)) (last : Nat) : List CpInfo := es.foldr (fun e r => gap e.1 (e.2 :: r)) (gap last [])
def pool (es : List (Nat × CpInfo)) (last : Nat) : Array CpInfo := ⟨poolList es last⟩
def fileOf (pool : Array CpInfo) (this : Nat) (attrs : Array Attribute := #[]) (ms : Array MethodInfo := #[]) (fl : Nat := 33) (sup : Nat := 0) (ifs : Array Nat := #[]) (fds : Array FieldInfo := #[]) : ClassFile where
  minorVersion := 0
  majorVersion := 65
  constantPool := pool
  accessFlags := fl
  thisClass := this
  superClass := sup
  interfaces := ifs
  fields := fds
  methods := ms
  attributes := attrs
def plain (name : String) (sup : Option ClassId) : Class where
  name := name
  kind := .ordinary
  loader := none
  accessFlags := 33
  super := sup
  interfaces := #[]
  cf := none
  fields := #[]
  methods := #[]
  instanceTypes := #[]
  staticTypes := #[]
  resolved := #[]
  callSites := []
  init := .initialized
  statics := none
  mirror := none

def pool0 : Array CpInfo := pool [(5, u "<init>"), (0, u "()V"), (1, .class_ 10), (1, u "java/lang/Object")] 113

def k0m0 : Method := { name := "<init>", desc := "()V", sig := { parameters := [], returnType := none }, accessFlags := 1, code := none }
/-- java/lang/Object -/
def k0 : Class := { plain "java/lang/Object" none with
  accessFlags := 33
  interfaces := #[]
  cf := some (fileOf pool0 8 #[] #[{ accessFlags := 1, nameIndex := 5, descriptorIndex := 6, attributes := #[] }] 33 0 #[] #[])
  fields := #[]
  methods := #[k0m0]
  instanceTypes := #[]
  staticTypes := #[]
  resolved := Array.replicate 124 none
  statics := none }

def pool1 : Array CpInfo := pool [(2, .class_ 4), (1, u "java/lang/Object"), (0, u "<init>"), (0, u "()V"), (0, .integer 2147483647), (0, .methodref 9 10), (0, .class_ 11), (0, .nameAndType 12 13), (0, u "com/example/stemcycle/stemcycle/TourNormalisedPinLaw"), (0, u "swap"), (0, u "([III)V"), (0, .methodref 9 15), (0, .nameAndType 16 17), (0, u "put"), (0, u "([I[IIIZ)V"), (0, .methodref 9 19), (0, .nameAndType 20 21), (0, u "place"), (0, u "([I[IIIZI)V"), (0, .methodref 23 24), (0, .class_ 25), (0, .nameAndType 26 27), (0, u "com/example/stemcycle/stemcycle/Tour"), (0, u "normalised"), (0, u "([I)[I"), (0, .methodref 9 29), (0, .nameAndType 30 31), (0, u "same"), (0, u "([I[IIIZI)Z"), (0, .methodref 9 33), (0, .nameAndType 34 35), (0, u "at"), (0, u "(IIZI)I"), (2, u "law"), (0, u "(IIII)Z")] 5

def k1m0 : Method := { name := "<init>", desc := "()V", sig := { parameters := [], returnType := none }, accessFlags := 1, code := none }
def k1c1 : Code := { maxStack := 6, maxLocals := 18, code := code, exceptionTable := #[], attributes := #[] }
def k1m1 : Method := { name := "law", desc := "(IIII)Z", sig := { parameters := [.int, .int, .int, .int], returnType := some .boolean }, accessFlags := 9, code := some k1c1 }
def k1c2 : Code := { maxStack := 4, maxLocals := 4, code := method_3_code, exceptionTable := #[], attributes := #[] }
def k1m2 : Method := { name := "swap", desc := "([III)V", sig := { parameters := [(.array .int), .int, .int], returnType := none }, accessFlags := 10, code := some k1c2 }
def k1c3 : Code := { maxStack := 5, maxLocals := 5, code := method_4_code, exceptionTable := #[], attributes := #[] }
def k1m3 : Method := { name := "put", desc := "([I[IIIZ)V", sig := { parameters := [(.array .int), (.array .int), .int, .int, .boolean], returnType := none }, accessFlags := 10, code := some k1c3 }
def k1c4 : Code := { maxStack := 2, maxLocals := 4, code := method_5_code, exceptionTable := #[], attributes := #[] }
def k1m4 : Method := { name := "at", desc := "(IIZI)I", sig := { parameters := [.int, .int, .boolean, .int], returnType := some .int }, accessFlags := 10, code := some k1c4 }
def k1c5 : Code := { maxStack := 5, maxLocals := 6, code := method_6_code, exceptionTable := #[], attributes := #[] }
def k1m5 : Method := { name := "place", desc := "([I[IIIZI)V", sig := { parameters := [(.array .int), (.array .int), .int, .int, .boolean, .int], returnType := none }, accessFlags := 10, code := some k1c5 }
def k1c6 : Code := { maxStack := 5, maxLocals := 6, code := method_7_code, exceptionTable := #[], attributes := #[] }
def k1m6 : Method := { name := "same", desc := "([I[IIIZI)Z", sig := { parameters := [(.array .int), (.array .int), .int, .int, .boolean, .int], returnType := some .boolean }, accessFlags := 10, code := some k1c6 }
/-- com/example/stemcycle/stemcycle/TourNormalisedPinLaw -/
def k1 : Class := { plain "com/example/stemcycle/stemcycle/TourNormalisedPinLaw" (some 0) with
  accessFlags := 49
  interfaces := #[]
  cf := some (fileOf pool1 9 #[] #[{ accessFlags := 1, nameIndex := 5, descriptorIndex := 6, attributes := #[] }, { accessFlags := 9, nameIndex := 38, descriptorIndex := 39, attributes := #[] }, { accessFlags := 10, nameIndex := 12, descriptorIndex := 13, attributes := #[] }, { accessFlags := 10, nameIndex := 16, descriptorIndex := 17, attributes := #[] }, { accessFlags := 10, nameIndex := 34, descriptorIndex := 35, attributes := #[] }, { accessFlags := 10, nameIndex := 20, descriptorIndex := 21, attributes := #[] }, { accessFlags := 10, nameIndex := 30, descriptorIndex := 31, attributes := #[] }] 49 2 #[] #[])
  fields := #[]
  methods := #[k1m0, k1m1, k1m2, k1m3, k1m4, k1m5, k1m6]
  instanceTypes := #[]
  staticTypes := #[]
  resolved := Array.replicate 45 none
  statics := none }

def pool2 : Array CpInfo := pool [(2, .class_ 4), (1, u "java/lang/Object"), (3, .class_ 10), (1, u "com/example/stemcycle/stemcycle/Tour"), (0, u "cities"), (0, u "[I"), (116, u "normalised"), (0, u "([I)[I")] 74

def k2c0 : Code := { maxStack := 4, maxLocals := 7, code := prog_60_method_7_code, exceptionTable := #[], attributes := #[] }
def k2m0 : Method := { name := "normalised", desc := "([I)[I", sig := { parameters := [(.array .int)], returnType := some (.array .int) }, accessFlags := 8, code := some k2c0 }
/-- com/example/stemcycle/stemcycle/Tour -/
def k2 : Class := { plain "com/example/stemcycle/stemcycle/Tour" (some 0) with
  accessFlags := 49
  interfaces := #[]
  cf := some (fileOf pool2 8 #[] #[{ accessFlags := 8, nameIndex := 129, descriptorIndex := 130, attributes := #[] }] 49 2 #[] #[{ accessFlags := 18, nameIndex := 11, descriptorIndex := 12, attributes := #[] }])
  fields := #[{ name := "cities", type := (.array .int), accessFlags := 18, slot := 0, constantValue := 0 }]
  methods := #[k2m0]
  instanceTypes := #[(.array .int)]
  staticTypes := #[]
  resolved := Array.replicate 205 none
  statics := none }

def pool3 : Array CpInfo := pool [(1, u "java/lang/Cloneable"), (0, .class_ 1), (0, u "java/lang/Object"), (0, .class_ 3)] 3

/-- java/lang/Cloneable -/
def k3 : Class := { plain "java/lang/Cloneable" (some 0) with
  accessFlags := 1537
  interfaces := #[]
  cf := some (fileOf pool3 2 #[] #[] 1537 4 #[] #[])
  fields := #[]
  methods := #[]
  instanceTypes := #[]
  staticTypes := #[]
  resolved := Array.replicate 8 none
  statics := none }

def pool4 : Array CpInfo := pool [(1, u "java/io/Serializable"), (0, .class_ 1), (0, u "java/lang/Object"), (0, .class_ 3)] 3

/-- java/io/Serializable -/
def k4 : Class := { plain "java/io/Serializable" (some 0) with
  accessFlags := 1537
  interfaces := #[]
  cf := some (fileOf pool4 2 #[] #[] 1537 4 #[] #[])
  fields := #[]
  methods := #[]
  instanceTypes := #[]
  staticTypes := #[]
  resolved := Array.replicate 8 none
  statics := none }

/-- the primitive byte -/
def k5 : Class := { plain "byte" none with kind := .primitive 'B', accessFlags := 0x411 }
/-- [B -/
def k6 : Class := { plain "[B" (some 0) with kind := .array 5 .byte, interfaces := #[3, 4], accessFlags := 1041 }

/-- the primitive int -/
def k7 : Class := { plain "int" none with kind := .primitive 'I', accessFlags := 0x411 }
/-- [I -/
def k8 : Class := { plain "[I" (some 0) with kind := .array 7 .int, interfaces := #[3, 4], accessFlags := 1041 }

def heap : Heap := #[]
def classes : Array Class := #[k0, k1, k2, k3, k4, k5, k6, k7, k8]
def interned : List (Array UInt16 × Addr) := []
def slotsUsed : Nat := 0
def theMethod : MethodId := ⟨1, 1⟩
def args0 : Array Value := #[.int 5, .int 2, .int 9, .int 1]
def aboutOver (below : List Frame) : State where
  vm := { classes := classes, interned := interned.toArray }
  heap := heap
  slotsUsed := slotsUsed
  threads := #[{ frames := .invoking theMethod args0 :: below }]
def below0 : List Frame := [.native { method := ⟨0, 0⟩, args := #[] }]
def about1 : State := aboutOver below0
def p0 : Program := .bare "" "" ""
def e0 : Env := launch0.env 0 0 0
theorem w_frames : about1.frames = Frame.invoking theMethod args0 :: below0 := rfl
set_option maxRecDepth 65536 in
theorem w_args : argsFit about1.vm theMethod args0 = true := by decide +kernel
set_option maxRecDepth 65536 in
theorem w_heap : heapFits about1 = true := by decide +kernel
set_option maxRecDepth 65536 in
theorem w_runnable : about1.curStatus? = some .runnable := by decide +kernel
set_option maxRecDepth 65536 in
theorem w_alone : about1.alone = true := by decide +kernel
set_option maxRecDepth 65536 in
theorem w_named : about1.methodNamed? x = some theMethod := by decide +kernel
set_option maxRecDepth 65536 in
theorem w_hears : about1.hears theMethod below0 = true := by decide +kernel
set_option maxRecDepth 65536 in
theorem w_ripe : about1.ripe theMethod args0 below0 = true := by decide +kernel
theorem w_running : about1.status = .running := rfl
set_option maxRecDepth 65536 in
theorem w_room : about1.hasRoom e0.platform room_1 = true :=
  launch0.hasRoom_least _ room_1 (by decide +kernel) (by decide +kernel) (by decide +kernel) (by decide +kernel) (by decide +kernel) (by decide +kernel)
theorem allAtoms_all (ts : List Jvm.Cond) (a : Array Jvm.Value) (st : Jvm.State) : (allAtoms ts).before a st = ts.all (fun c => c.before a st) := by
  induction ts with
  | nil => rfl
  | cons c t ih =>
    show (Jvm.Cond.and c (allAtoms t)).before a st = _
    rw [Jvm.Cond.before_and, ih, List.all_cons]
def words1 : List Jvm.Cond := Jvm.Cond.code x code maxLocals ret :: tables_1
/-- a 'code' word, met by the world's own term for the bytes: nothing is compared byte by byte -/
theorem code_word {y : MethodName} {bytes : ByteArray} {mx : Nat} {rt : Option FieldType} {a : Array Value} {s : State} {m : MethodId} {meth : Method} {c : Code} (h1 : s.methodNamed? y = some m) (h2 : s.vm.method? m = some meth) (h3 : meth.code = some c) (h4 : c.code = bytes)
    (h5 : (c.maxLocals == mx && c.exceptionTable.isEmpty && decide (c.maxStack ≤ mostOperands) && decide (meth.sig.returnType = rt) && !meth.locks && decide (parseMethodDescriptor y.desc = some meth.sig)) = true) : (Jvm.Cond.code y bytes mx rt).before a s = true := by
  simp only [Bool.and_eq_true, beq_iff_eq, Bool.not_eq_true', decide_eq_true_eq] at h5
  obtain ⟨⟨⟨⟨⟨g1, g2⟩, g3⟩, g4⟩, g5⟩, g6⟩ := h5
  simp [Cond.before, Cond.holds, Cond.value, h1, h2, h3, h4, g1, g2, g3, g4, g5, g6]
def isCode : Jvm.Cond → Bool
  | .code _ _ _ _ => true
  | _ => false
theorem all_split {L : List Jvm.Cond} {P : Jvm.Cond → Bool} (h1 : L.all (fun c => isCode c || P c) = true) (h2 : ∀ c ∈ L.filter isCode, P c = true) : L.all P = true := by
  refine List.all_eq_true.mpr fun c hc => ?_
  have h := List.all_eq_true.mp h1 c hc
  rcases Bool.eq_false_or_eq_true (isCode c) with hi | hi
  · exact h2 c (List.mem_filter.mpr ⟨hc, hi⟩)
  · simpa [hi] using h
set_option maxRecDepth 65536 in
theorem w_c0 : (Jvm.Cond.code x code maxLocals ret).before args0 about1 = true := code_word (m := ⟨1, 1⟩) (meth := k1m1) (c := k1c1) (by decide +kernel) rfl rfl rfl (by decide +kernel)
set_option maxRecDepth 65536 in
theorem w_c1 : (Jvm.Cond.code ({ cls := "com/example/stemcycle/stemcycle/TourNormalisedPinLaw", name := "swap", desc := "([III)V" } : Jvm.MethodName) method_3_code (4 : Nat) (Option.none : Option Jvm.ClassFile.FieldType)).before args0 about1 = true := code_word (m := ⟨1, 2⟩) (meth := k1m2) (c := k1c2) (by decide +kernel) rfl rfl rfl (by decide +kernel)
set_option maxRecDepth 65536 in
theorem w_c2 : (Jvm.Cond.code ({ cls := "com/example/stemcycle/stemcycle/TourNormalisedPinLaw", name := "put", desc := "([I[IIIZ)V" } : Jvm.MethodName) method_4_code (5 : Nat) (Option.none : Option Jvm.ClassFile.FieldType)).before args0 about1 = true := code_word (m := ⟨1, 3⟩) (meth := k1m3) (c := k1c3) (by decide +kernel) rfl rfl rfl (by decide +kernel)
set_option maxRecDepth 65536 in
theorem w_c3 : (Jvm.Cond.code ({ cls := "com/example/stemcycle/stemcycle/TourNormalisedPinLaw", name := "place", desc := "([I[IIIZI)V" } : Jvm.MethodName) method_6_code (6 : Nat) (Option.none : Option Jvm.ClassFile.FieldType)).before args0 about1 = true := code_word (m := ⟨1, 5⟩) (meth := k1m5) (c := k1c5) (by decide +kernel) rfl rfl rfl (by decide +kernel)
set_option maxRecDepth 65536 in
theorem w_c4 : (Jvm.Cond.code ({ cls := "com/example/stemcycle/stemcycle/TourNormalisedPinLaw", name := "at", desc := "(IIZI)I" } : Jvm.MethodName) method_5_code (4 : Nat) (Option.some Jvm.ClassFile.FieldType.int)).before args0 about1 = true := code_word (m := ⟨1, 4⟩) (meth := k1m4) (c := k1c4) (by decide +kernel) rfl rfl rfl (by decide +kernel)
set_option maxRecDepth 65536 in
theorem w_c5 : (Jvm.Cond.code ({ cls := "com/example/stemcycle/stemcycle/Tour", name := "normalised", desc := "([I)[I" } : Jvm.MethodName) prog_60_method_7_code (7 : Nat) (Option.some (Jvm.ClassFile.FieldType.array Jvm.ClassFile.FieldType.int))).before args0 about1 = true := code_word (m := ⟨2, 0⟩) (meth := k2m0) (c := k2c0) (by decide +kernel) rfl rfl rfl (by decide +kernel)
set_option maxRecDepth 65536 in
theorem w_c6 : (Jvm.Cond.code ({ cls := "com/example/stemcycle/stemcycle/TourNormalisedPinLaw", name := "same", desc := "([I[IIIZI)Z" } : Jvm.MethodName) method_7_code (6 : Nat) (Option.some Jvm.ClassFile.FieldType.boolean)).before args0 about1 = true := code_word (m := ⟨1, 6⟩) (meth := k1m6) (c := k1c6) (by decide +kernel) rfl rfl rfl (by decide +kernel)
def codes1 : List Jvm.Cond := [Jvm.Cond.code x code maxLocals ret, Jvm.Cond.code ({ cls := "com/example/stemcycle/stemcycle/TourNormalisedPinLaw", name := "swap", desc := "([III)V" } : Jvm.MethodName) method_3_code (4 : Nat) (Option.none : Option Jvm.ClassFile.FieldType), Jvm.Cond.code ({ cls := "com/example/stemcycle/stemcycle/TourNormalisedPinLaw", name := "put", desc := "([I[IIIZ)V" } : Jvm.MethodName) method_4_code (5 : Nat) (Option.none : Option Jvm.ClassFile.FieldType), Jvm.Cond.code ({ cls := "com/example/stemcycle/stemcycle/TourNormalisedPinLaw", name := "place", desc := "([I[IIIZI)V" } : Jvm.MethodName) method_6_code (6 : Nat) (Option.none : Option Jvm.ClassFile.FieldType), Jvm.Cond.code ({ cls := "com/example/stemcycle/stemcycle/TourNormalisedPinLaw", name := "at", desc := "(IIZI)I" } : Jvm.MethodName) method_5_code (4 : Nat) (Option.some Jvm.ClassFile.FieldType.int), Jvm.Cond.code ({ cls := "com/example/stemcycle/stemcycle/Tour", name := "normalised", desc := "([I)[I" } : Jvm.MethodName) prog_60_method_7_code (7 : Nat) (Option.some (Jvm.ClassFile.FieldType.array Jvm.ClassFile.FieldType.int)), Jvm.Cond.code ({ cls := "com/example/stemcycle/stemcycle/TourNormalisedPinLaw", name := "same", desc := "([I[IIIZI)Z" } : Jvm.MethodName) method_7_code (6 : Nat) (Option.some Jvm.ClassFile.FieldType.boolean)]
set_option maxRecDepth 65536 in
theorem codes_eq : words1.filter isCode = codes1 := rfl
theorem w_codes : ∀ c ∈ words1.filter isCode, c.before args0 about1 = true := by
  rw [codes_eq]
  intro c hc
  simp only [codes1, List.mem_cons, List.not_mem_nil, or_false] at hc
  rcases hc with rfl | rfl | rfl | rfl | rfl | rfl | rfl
  · exact w_c0
  · exact w_c1
  · exact w_c2
  · exact w_c3
  · exact w_c4
  · exact w_c5
  · exact w_c6
set_option maxRecDepth 65536 in
theorem w_t1 : words1.all (fun c => isCode c || c.before args0 about1) = true := by decide +kernel
theorem w_tables : (allAtoms (Jvm.Cond.code x code maxLocals ret :: tables_1)).before args0 about1 = true := by
  rw [allAtoms_all]
  show words1.all (fun c => c.before args0 about1) = true
  refine all_split ?_ w_codes
  rw [w_t1]
set_option maxRecDepth 65536 in
theorem w_case : (Jvm.Cond.and given_1 narrow_1).before args0 about1 = true := by decide +kernel
theorem w_applies : (headSpec (Jvm.Cond.code x code maxLocals ret :: tables_1) room_1).applies x e0.platform about1 = true :=
  (Spec.applies_iff w_frames).mpr ⟨w_running, w_runnable, w_alone, w_named, w_hears, w_ripe, w_room, w_tables⟩
theorem atStart : AtStart classFile x code maxLocals ret World_1 tables_1 room_1 Calls_1 rest_1 Pre_1 launch0 p0 e0 about1 theMethod args0 below0 :=
  ⟨lists_1, trivial, launch0.admits_env _ _ _, launch0.least_env, fairChoices_fair.cas, fairChoices_fair.clock, w_frames, w_args, w_heap, w_applies, trivial, trivial, w_case⟩
end start1
theorem witness_1 : WitnessClaimed_1 := ⟨start1.p0, start1.e0, start1.about1, start1.theMethod, start1.args0, start1.below0, start1.atStart⟩
end Jvm.Pilot.@@N@@
