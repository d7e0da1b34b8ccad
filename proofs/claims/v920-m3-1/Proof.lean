import JvmDerived
import JvmDerived.Pilot.@@N@@Statement
import JvmDerived.Pilot.@@N@@Code
set_option linter.unusedVariables false
set_option linter.unusedSimpArgs false
namespace Jvm.GoKit
open Sem ClassFile Op Lib Jvm.Stand Jvm.Free Jvm.LawKit Jvm.RoadKit
/-! The walk as a backward predicate over a small abstract machine: refs count the cells made since the law began. -/
abbrev GCell := (String × List (String × String × Value)) ⊕ (FieldType × List Value)
abbrev ob (C : String) (fs : List (String × String × Value)) : GCell := Sum.inl (C, fs)
abbrev ar (t : FieldType) (vs : List Value) : GCell := Sum.inr (t, vs)
def upV (b : Nat) : Value → Value
  | .ref k => .ref (b + k)
  | .int x => .int x
  | .long x => .long x
  | .float x => .float x
  | .double x => .double x
  | .null => .null
  | .retAddr x => .retAddr x
def upS (b : Nat) : Slot → Slot
  | .val v => .val (upV b v)
  | .unset => .unset
  | .second => .second
theorem cat_up (b : Nat) (v : Value) : (upV b v).category = v.category := by cases v <;> rfl
theorem isRef_up (b : Nat) (v : Value) : (upV b v).isRef = v.isRef := by cases v <;> rfl
def CellOk (Z : State) (a0 : Array Value) (b : Nat) (h : Heap) (a : Addr) : GCell → Prop
  | Sum.inl (C, fs) => Exa Z h a C ∧ (∀ f ∈ fs, Fld Z h a C f.1 f.2.1 (upV b f.2.2) ∧ Laid Z a0 C C f.1 f.2.1 ∧ ∃ t, parseFieldDescriptor f.2.1 = some t) ∧ (fs.map (·.1)).Nodup
  | Sum.inr (ty, vs) => ∃ c : Cell, Arr Z h a c ty ∧ c.slots = (vs.map (upV b)).toArray
def Rel (Z : State) (a0 : Array Value) (b : Nat) (H : List GCell) (h : Heap) : Prop :=
  h.size = b + H.length ∧ ∀ (i : Nat) (mc : GCell), H[i]? = some mc → CellOk Z a0 b h (b + i) mc
section Rels
variable {Z : State} {a0 : Array Value} {b : Nat} {H : List GCell} {h h' : Heap} {a a' : Addr} {sl : Nat} {v : Value} {mc : GCell}
theorem CellOk.ext (E : Ext h h') (K : CellOk Z a0 b h a mc) : CellOk Z a0 b h' a mc := by
  rcases mc with ⟨C, fs⟩ | ⟨ty, vs⟩
  · obtain ⟨k1, k2, k3⟩ := K
    exact ⟨k1.ext E, fun f hf => ⟨(k2 f hf).1.ext E, (k2 f hf).2⟩, k3⟩
  · obtain ⟨c, A, e⟩ := K
    exact ⟨c, A.ext E, e⟩
theorem CellOk.other (W : Wr h h' a sl v) (ne : a' ≠ a) (K : CellOk Z a0 b h a' mc) : CellOk Z a0 b h' a' mc := by
  rcases mc with ⟨C, fs⟩ | ⟨ty, vs⟩
  · obtain ⟨k1, k2, k3⟩ := K
    exact ⟨k1.wr W, fun f hf => ⟨(k2 f hf).1.other W (Or.inl ne), (k2 f hf).2⟩, k3⟩
  · obtain ⟨c, A, e⟩ := K
    exact ⟨c, A.other W ne, e⟩
theorem Rel.nil (h : Heap) : Rel Z a0 h.size [] h := ⟨rfl, fun (i : Nat) mc q => by simp at q⟩
theorem Rel.push (RR : Rel Z a0 b H h) (E : Ext h h') (hs : h'.size = h.size + 1) (K : CellOk Z a0 b h' (b + H.length) mc) : Rel Z a0 b (H ++ [mc]) h' := by
  refine ⟨by rw [hs, RR.1]; simp; omega, fun (i : Nat) mc' q => ?_⟩
  rw [List.getElem?_append] at q
  split at q
  · exact (RR.2 i mc' q).ext E
  · rename_i hi
    have e : i = H.length := by
      by_cases e : i - H.length = 0
      · omega
      · rw [List.getElem?_eq_none (by simp; omega)] at q; cases q
    subst e
    simp at q
    exact q ▸ K
theorem Rel.wr (RR : Rel Z a0 b H h) {i : Nat} (W : Wr h h' (b + i) sl v) (K : CellOk Z a0 b h' (b + i) mc) : Rel Z a0 b (H.set i mc) h' := by
  refine ⟨by rw [W.size, RR.1]; simp, fun (j : Nat) mc' q => ?_⟩
  rw [List.getElem?_set] at q
  split at q
  · rename_i e
    subst e
    split at q
    · cases q; exact K
    · cases q
  · rename_i e
    exact (RR.2 j mc' q).other W (fun z => e (Nat.add_left_cancel z).symm)
theorem mem_setF {n d : String} {o : Value} : ∀ (fs : List (String × String × Value)) (j : Nat), (fs.map (·.1)).Nodup → fs[j]? = some (n, d, o) → ∀ f ∈ fs.set j (n, d, v), f = (n, d, v) ∨ (f ∈ fs ∧ f.1 ≠ n)
  | [], _, _, q, _, _ => by simp at q
  | g :: gs, 0, nd, q, f, hf => by
    simp only [List.getElem?_cons_zero, Option.some.injEq] at q
    subst q
    simp only [List.map_cons, List.nodup_cons] at nd
    simp only [List.set_cons_zero, List.mem_cons] at hf
    rcases hf with rfl | hf
    · exact Or.inl rfl
    · refine Or.inr ⟨List.mem_cons_of_mem _ hf, fun e => nd.1 ?_⟩
      exact List.mem_map.mpr ⟨f, hf, e⟩
  | g :: gs, j + 1, nd, q, f, hf => by
    simp only [List.getElem?_cons_succ] at q
    simp only [List.map_cons, List.nodup_cons] at nd
    simp only [List.set_cons_succ, List.mem_cons] at hf
    rcases hf with rfl | hf
    · refine Or.inr ⟨List.mem_cons_self .., fun e => nd.1 ?_⟩
      exact List.mem_map.mpr ⟨_, List.mem_of_getElem? q, e.symm⟩
    · rcases mem_setF gs j nd.2 q f hf with e | ⟨e1, e2⟩
      · exact Or.inl e
      · exact Or.inr ⟨List.mem_cons_of_mem _ e1, e2⟩
theorem map_setF {n d : String} {o : Value} : ∀ (fs : List (String × String × Value)) (j : Nat), fs[j]? = some (n, d, o) → (fs.set j (n, d, v)).map (·.1) = fs.map (·.1)
  | [], _, q => by simp at q
  | g :: gs, 0, q => by
    simp only [List.getElem?_cons_zero, Option.some.injEq] at q
    subst q; rfl
  | g :: gs, j + 1, q => by
    simp only [List.getElem?_cons_succ] at q
    simp only [List.set_cons_succ, List.map_cons, map_setF gs j q]
theorem CellOk.fset {C n d : String} {fs : List (String × String × Value)} {j : Nat} {o : Value} (K : CellOk Z a0 b h a (ob C fs)) (q : fs[j]? = some (n, d, o)) (W : Wr h h' a (Jvm.RoadKit.slotOf Z C n d) (upV b v)) : CellOk Z a0 b h' a (ob C (fs.set j (n, d, v))) := by
  obtain ⟨k1, k2, k3⟩ := K
  have m0 := List.mem_of_getElem? q
  obtain ⟨F, L, t, ht⟩ := k2 _ m0
  refine ⟨k1.wr W, fun f hf => ?_, by rw [map_setF fs j q]; exact k3⟩
  rcases mem_setF fs j k3 q f hf with rfl | ⟨e1, e2⟩
  · exact ⟨F.same W, L, t, ht⟩
  · obtain ⟨F', L', t', ht'⟩ := k2 _ e1
    exact ⟨F'.other W (Or.inr (slot_ne L' L e2 ht' ht)), L', t', ht'⟩
end Rels
theorem ne_oa {H : List GCell} {i j : Nat} {C : String} {fs : List (String × String × Value)} {t : FieldType} {vs : List Value} (h1 : H[i]? = some (ob C fs)) (h2 : H[j]? = some (ar t vs)) : i ≠ j := fun e => by subst e; rw [h1] at h2; cases h2
theorem get_ne {H : List GCell} {i j : Nat} {m m' : GCell} (h : H[j]? = some m) (ne : i ≠ j) : (H.set i m')[j]? = some m := by rw [List.getElem?_set_ne ne]; exact h
theorem get_eq {H : List GCell} {i : Nat} {m m' : GCell} (h : H[i]? = some m) : (H.set i m')[i]? = some m' := by
  have := (List.getElem?_eq_some_iff.mp h).1
  simp [this]
theorem get_app {H H2 : List GCell} {i : Nat} {m : GCell} (h : H[i]? = some m) : (H ++ H2)[i]? = some m := by
  have := (List.getElem?_eq_some_iff.mp h).1
  rw [List.getElem?_append_left this]; exact h
theorem get_last {H : List GCell} {m : GCell} : (H ++ [m])[H.length]? = some m := by simp
theorem set_same {α : Type} {l : List α} {k : Nat} {v : α} (h : l[k]? = some v) : l.set k v = l := by
  apply List.ext_getElem?
  intro j
  rw [List.getElem?_set]
  split
  · rename_i e; subst e
    obtain ⟨h1, h2⟩ := List.getElem?_eq_some_iff.mp h
    rw [if_pos h1, h]
  · rfl
def Dc (bytes : ByteArray) (pc : Nat) (i : Instr) (n nx : Nat) : Prop := decode bytes pc = .ok (i, n) ∧ pc + n = nx
theorem wd {W : List Jvm.Cond} {d : Jvm.Cond} (k : Nat) (h : W[k]? = some d) : d ∈ W := List.mem_of_getElem? h
def QQ (Z : State) (a0 : Array Value) (b : Nat) (Post : Option Value → List GCell → Prop) (v : Option Value) (h : Heap) (LL : List Loc) : Prop :=
  Fr b LL ∧ ∃ v' H', v = Option.map (upV b) v' ∧ Rel Z a0 b H' h ∧ Post v' H'
/-- a method's contract over the abstract machine -/
def Met (l : Launch) (Z : State) (a0 : Array Value) (b : Nat) (y : MethodName) (bytes : ByteArray) (maxL : Nat) (ret : Option FieldType) (rm : Room) (as : List Value) (H : List GCell) (Post : Option Value → List GCell → Prop) : Prop :=
  ∀ h, Rel Z a0 b H h → ∀ ws, MetFree l y (head1 (Jvm.Cond.code y bytes maxL ret :: ws) rm) (fun a U => a = (as.map (upV b)).toArray ∧ Z.Warmed39 U.vm ∧ U.heap = h) (fun _ _ _ _ _ => True)
    (fun _ U o U' => ∃ v LL, o = .returned v ∧ QQ Z a0 b Post v U'.heap LL ∧ FrameEnd U o U' LL rm.cells rm.slots)
/-- where a body is walked -/
def Cx (p : Program) (l : Launch) (e : Env) (R : Room) (s : State) (m : MethodId) (args : Array Value) (below : List Frame) (meth : Method) (c : Code) (Z : State) (a0 : Array Value) (W : List Jvm.Cond) (b : Nat) (y : MethodName) (bytes : ByteArray) (nL : Nat) (ret : Option FieldType) (Post : Option Value → List GCell → Prop) : Prop :=
  p.tables.exec = Jvm.exec ∧ Z.Warmed39 s.vm ∧ s.vm.findClass y.cls = some m.cls ∧ c.code = bytes ∧ c.maxLocals = nL ∧ meth.sig.returnType = ret ∧ meth.locks = false ∧ meth.name = y.name ∧ (∀ d ∈ W, d.before a0 Z = true)
section Walk
variable {p : Program} {l : Launch} {e : Env} {R : Room} {s : State} {m : MethodId} {args : Array Value} {below : List Frame} {meth : Method} {c : Code} {Z : State} {a0 : Array Value} {W : List Jvm.Cond} {b : Nat} {y : MethodName} {bytes : ByteArray} {nL : Nat} {ret : Option FieldType} {Post : Option Value → List GCell → Prop}
theorem Cx.exec (C : Cx p l e R s m args below meth c Z a0 W b y bytes nL ret Post) : p.tables.exec = Jvm.exec := C.1
theorem Cx.warm (C : Cx p l e R s m args below meth c Z a0 W b y bytes nL ret Post) : Z.Warmed39 s.vm := C.2.1
theorem Cx.own (C : Cx p l e R s m args below meth c Z a0 W b y bytes nL ret Post) : s.vm.findClass y.cls = some m.cls := C.2.2.1
theorem Cx.bys (C : Cx p l e R s m args below meth c Z a0 W b y bytes nL ret Post) : c.code = bytes := C.2.2.2.1
theorem Cx.ml (C : Cx p l e R s m args below meth c Z a0 W b y bytes nL ret Post) : c.maxLocals = nL := C.2.2.2.2.1
theorem Cx.rets (C : Cx p l e R s m args below meth c Z a0 W b y bytes nL ret Post) : meth.sig.returnType = ret := C.2.2.2.2.2.1
theorem Cx.nolock (C : Cx p l e R s m args below meth c Z a0 W b y bytes nL ret Post) : meth.locks = false := C.2.2.2.2.2.2.1
theorem Cx.named (C : Cx p l e R s m args below meth c Z a0 W b y bytes nL ret Post) : meth.name = y.name := C.2.2.2.2.2.2.2.1
theorem Cx.hw (C : Cx p l e R s m args below meth c Z a0 W b y bytes nL ret Post) : ∀ d ∈ W, d.before a0 Z = true := C.2.2.2.2.2.2.2.2
abbrev frm (b : Nat) (m : MethodId) (pc : Nat) (L : List Slot) (S : List Value) : JFrame := mkF m pc (L.map (upS b)).toArray (S.map (upV b))
def Ends (p : Program) (e : Env) (s : State) (R : Room) (b : Nat) (Z : State) (a0 : Array Value) (Post : Option Value → List GCell → Prop) (below : List Frame) (A : State) : Prop :=
  ∃ s₂ o, Steps p.tables e below A s₂ ∧ s₂.status = .running ∧ Ended s₂ below o ∧ ∃ v LL, o = .returned v ∧ QQ Z a0 b Post v s₂.heap LL ∧ FrameEnd s o s₂ LL R.cells R.slots
/-- from here the body returns, and Post holds of what it returns and of the heap -/
def Go (C : Cx p l e R s m args below meth c Z a0 W b y bytes nL ret Post) (pc : Nat) (L : List Slot) (S : List Value) (H : List GCell) (cells slots : Nat) : Prop :=
  ∀ T locs, Stand p l e R s m args below meth c T locs cells slots → Fr b locs → Rel Z a0 b H T.heap → Ends p e s R b Z a0 Post below (T.setTop (frm b m pc L S))
variable {C : Cx p l e R s m args below meth c Z a0 W b y bytes nL ret Post} {pc nx tg : Nat} {L L' : List Slot} {S S' : List Value} {H H' : List GCell} {cells slots : Nat}
theorem Ends.back {A B : State} (st : ∀ t, Steps p.tables e below B t → Steps p.tables e below A t) (h : Ends p e s R b Z a0 Post below B) : Ends p e s R b Z a0 Post below A := by
  obtain ⟨s₂, o, hs, hr⟩ := h
  exact ⟨s₂, o, st _ hs, hr⟩
theorem Go.more {cells' slots' : Nat} (h : Go C pc L S H cells' slots') (hc : cells ≤ cells') (hs : slots ≤ slots') : Go C pc L S H cells slots :=
  fun T locs X N RR => h T locs (X.more hc hs) N RR
theorem go_pure (st : ∀ (T : State) locs cells slots, Stand p l e R s m args below meth c T locs cells slots → ∀ t, Steps p.tables e below (T.setTop (frm b m nx L' S')) t → Steps p.tables e below (T.setTop (frm b m pc L S)) t) (h : Go C nx L' S' H cells slots) : Go C pc L S H cells slots :=
  fun T locs X N RR => (h T locs X N RR).back (st T locs _ _ X)
/-- a boolean reckoned by branches: the ways come together at pc' -/
theorem go_cut {pc' : Nat} {P : Int32 → Prop} (h1 : (∀ mb, P mb → Go C pc' L (.int mb :: S) H cells slots) → Go C pc L S H cells slots) (h2 : ∀ mb, P mb → Go C pc' L (.int mb :: S) H cells slots) : Go C pc L S H cells slots := h1 h2
theorem getL {k : Nat} {o : Slot} (h : L[k]? = some o) : (L.map (upS b)).toArray[k]? = some (upS b o) := by simp [h]
theorem go_iload {k : Nat} {x : Int32} (hd : Dc bytes pc (.iload k) 2 nx) (hl : L[k]? = some (.val (.int x))) (h : Go C nx L (.int x :: S) H cells slots) : Go C pc L S H cells slots :=
  go_pure (fun T _ _ _ X t k => by obtain ⟨hd, rfl⟩ := hd; exact XS.iload X.here C.exec rfl (hb C.bys hd) (getL hl) k) h
theorem go_iloadN {k : Fin 4} {x : Int32} (hd : Dc bytes pc (.iload_n k) 1 nx) (hl : L[k.val]? = some (.val (.int x))) (h : Go C nx L (.int x :: S) H cells slots) : Go C pc L S H cells slots :=
  go_pure (fun T _ _ _ X t k => by obtain ⟨hd, rfl⟩ := hd; exact XS.iloadN X.here C.exec rfl (hb C.bys hd) (getL hl) k) h
theorem go_lload {k : Nat} {x : Int64} (hd : Dc bytes pc (.lload k) 2 nx) (hl : L[k]? = some (.val (.long x))) (h : Go C nx L (.long x :: S) H cells slots) : Go C pc L S H cells slots :=
  go_pure (fun T _ _ _ X t k => by obtain ⟨hd, rfl⟩ := hd; exact XT.lload X.here C.exec rfl (hb C.bys hd) (getL hl) k) h
theorem go_lloadN {k : Fin 4} {x : Int64} (hd : Dc bytes pc (.lload_n k) 1 nx) (hl : L[k.val]? = some (.val (.long x))) (h : Go C nx L (.long x :: S) H cells slots) : Go C pc L S H cells slots :=
  go_pure (fun T _ _ _ X t k => by obtain ⟨hd, rfl⟩ := hd; exact XT.lloadN X.here C.exec rfl (hb C.bys hd) (getL hl) k) h
theorem go_aload {k : Nat} {x : Value} (hd : Dc bytes pc (.aload k) 2 nx) (hl : L[k]? = some (.val x)) (hr : x.isRef = true) (h : Go C nx L (x :: S) H cells slots) : Go C pc L S H cells slots :=
  go_pure (fun T _ _ _ X t k => by obtain ⟨hd, rfl⟩ := hd; exact XS.aload X.here C.exec rfl (hb C.bys hd) (getL hl) ((isRef_up b x).trans hr) k) h
theorem go_aloadN {k : Fin 4} {x : Value} (hd : Dc bytes pc (.aload_n k) 1 nx) (hl : L[k.val]? = some (.val x)) (hr : x.isRef = true) (h : Go C nx L (x :: S) H cells slots) : Go C pc L S H cells slots :=
  go_pure (fun T _ _ _ X t k => by obtain ⟨hd, rfl⟩ := hd; exact XS.aloadN X.here C.exec rfl (hb C.bys hd) (getL hl) ((isRef_up b x).trans hr) k) h
theorem go_iconst {i : Int} {x : Int32} (hd : Dc bytes pc (.iconst i) 1 nx) (hv : Int32.ofInt i = x) (h : Go C nx L (.int x :: S) H cells slots) : Go C pc L S H cells slots :=
  go_pure (fun T _ _ _ X t k => by obtain ⟨hd, rfl⟩ := hd; subst hv; exact XS.iconst X.here C.exec rfl (hb C.bys hd) k) h
theorem go_bipush {i : Int} {x : Int32} (hd : Dc bytes pc (.bipush i) 2 nx) (hv : (Int8.ofInt i).toInt32 = x) (h : Go C nx L (.int x :: S) H cells slots) : Go C pc L S H cells slots :=
  go_pure (fun T _ _ _ X t k => by obtain ⟨hd, rfl⟩ := hd; subst hv; exact XS.bipush X.here C.exec rfl (hb C.bys hd) k) h
theorem go_sipush {i : Int} {x : Int32} (hd : Dc bytes pc (.sipush i) 3 nx) (hv : (Int16.ofInt i).toInt32 = x) (h : Go C nx L (.int x :: S) H cells slots) : Go C pc L S H cells slots :=
  go_pure (fun T _ _ _ X t k => by obtain ⟨hd, rfl⟩ := hd; subst hv; exact XS.sipush X.here C.exec rfl (hb C.bys hd) k) h
theorem go_lconst {i : Fin 2} {x : Int64} (hd : Dc bytes pc (.lconst i) 1 nx) (hv : Int64.ofNat i = x) (h : Go C nx L (.long x :: S) H cells slots) : Go C pc L S H cells slots :=
  go_pure (fun T _ _ _ X t k => by obtain ⟨hd, rfl⟩ := hd; subst hv; exact XT.lconst X.here C.exec rfl (hb C.bys hd) k) h
theorem go_null (hd : Dc bytes pc .aconst_null 1 nx) (h : Go C nx L (.null :: S) H cells slots) : Go C pc L S H cells slots :=
  go_pure (fun T _ _ _ X t k => by obtain ⟨hd, rfl⟩ := hd; exact XS.aconstNull X.here C.exec rfl (hb C.bys hd) k) h
theorem go_ldc {i : Nat} {x : Int32} (hd : Dc bytes pc (.ldc i) 2 nx) (w : Jvm.Cond.constant y.cls i x ∈ W) (h : Go C nx L (.int x :: S) H cells slots) : Go C pc L S H cells slots :=
  go_pure (fun T _ _ _ X t k => by obtain ⟨hd, rfl⟩ := hd; exact X.ldcInt C.exec C.own (mvT C.warm (C.hw _ w)) (g := frm b m pc L S) rfl (hb C.bys hd) _ k) h
theorem go_ldc2 {i : Nat} {x : Int64} (hd : Dc bytes pc (.ldc2_w i) 3 nx) (w : Jvm.Cond.constantLong y.cls i x ∈ W) (h : Go C nx L (.long x :: S) H cells slots) : Go C pc L S H cells slots :=
  go_pure (fun T _ _ _ X t k => by obtain ⟨hd, rfl⟩ := hd; exact X.ldc2Long C.exec C.own (mvT C.warm (C.hw _ w)) (g := frm b m pc L S) rfl (hb C.bys hd) _ k) h
theorem go_iadd {x : Int32} {z : Int32} (hd : Dc bytes pc .iadd 1 nx) (h : Go C nx L (.int (x + z) :: S) H cells slots) : Go C pc L (.int z :: .int x :: S) H cells slots :=
  go_pure (fun T _ _ _ X t k => by obtain ⟨hd, rfl⟩ := hd; exact XS.iadd X.here C.exec rfl (hb C.bys hd) rfl k) h
theorem go_ladd {x : Int64} {z : Int64} (hd : Dc bytes pc .ladd 1 nx) (h : Go C nx L (.long (x + z) :: S) H cells slots) : Go C pc L (.long z :: .long x :: S) H cells slots :=
  go_pure (fun T _ _ _ X t k => by obtain ⟨hd, rfl⟩ := hd; exact XT.ladd X.here C.exec rfl (hb C.bys hd) rfl k) h
theorem go_isub {x : Int32} {z : Int32} (hd : Dc bytes pc .isub 1 nx) (h : Go C nx L (.int (x - z) :: S) H cells slots) : Go C pc L (.int z :: .int x :: S) H cells slots :=
  go_pure (fun T _ _ _ X t k => by obtain ⟨hd, rfl⟩ := hd; exact XS.isub X.here C.exec rfl (hb C.bys hd) rfl k) h
theorem go_lsub {x : Int64} {z : Int64} (hd : Dc bytes pc .lsub 1 nx) (h : Go C nx L (.long (x - z) :: S) H cells slots) : Go C pc L (.long z :: .long x :: S) H cells slots :=
  go_pure (fun T _ _ _ X t k => by obtain ⟨hd, rfl⟩ := hd; exact XT.lsub X.here C.exec rfl (hb C.bys hd) rfl k) h
theorem go_imul {x : Int32} {z : Int32} (hd : Dc bytes pc .imul 1 nx) (h : Go C nx L (.int (x * z) :: S) H cells slots) : Go C pc L (.int z :: .int x :: S) H cells slots :=
  go_pure (fun T _ _ _ X t k => by obtain ⟨hd, rfl⟩ := hd; exact XS.imul X.here C.exec rfl (hb C.bys hd) rfl k) h
theorem go_lmul {x : Int64} {z : Int64} (hd : Dc bytes pc .lmul 1 nx) (h : Go C nx L (.long (x * z) :: S) H cells slots) : Go C pc L (.long z :: .long x :: S) H cells slots :=
  go_pure (fun T _ _ _ X t k => by obtain ⟨hd, rfl⟩ := hd; exact XT.lmul X.here C.exec rfl (hb C.bys hd) rfl k) h
theorem go_iand {x : Int32} {z : Int32} (hd : Dc bytes pc .iand 1 nx) (h : Go C nx L (.int (x &&& z) :: S) H cells slots) : Go C pc L (.int z :: .int x :: S) H cells slots :=
  go_pure (fun T _ _ _ X t k => by obtain ⟨hd, rfl⟩ := hd; exact XS.iand X.here C.exec rfl (hb C.bys hd) rfl k) h
theorem go_land {x : Int64} {z : Int64} (hd : Dc bytes pc .land 1 nx) (h : Go C nx L (.long (x &&& z) :: S) H cells slots) : Go C pc L (.long z :: .long x :: S) H cells slots :=
  go_pure (fun T _ _ _ X t k => by obtain ⟨hd, rfl⟩ := hd; exact XT.land X.here C.exec rfl (hb C.bys hd) rfl k) h
theorem go_ior {x : Int32} {z : Int32} (hd : Dc bytes pc .ior 1 nx) (h : Go C nx L (.int (x ||| z) :: S) H cells slots) : Go C pc L (.int z :: .int x :: S) H cells slots :=
  go_pure (fun T _ _ _ X t k => by obtain ⟨hd, rfl⟩ := hd; exact XT.ior X.here C.exec rfl (hb C.bys hd) rfl k) h
theorem go_lor {x : Int64} {z : Int64} (hd : Dc bytes pc .lor 1 nx) (h : Go C nx L (.long (x ||| z) :: S) H cells slots) : Go C pc L (.long z :: .long x :: S) H cells slots :=
  go_pure (fun T _ _ _ X t k => by obtain ⟨hd, rfl⟩ := hd; exact XT.lor X.here C.exec rfl (hb C.bys hd) rfl k) h
theorem go_ixor {x : Int32} {z : Int32} (hd : Dc bytes pc .ixor 1 nx) (h : Go C nx L (.int (x ^^^ z) :: S) H cells slots) : Go C pc L (.int z :: .int x :: S) H cells slots :=
  go_pure (fun T _ _ _ X t k => by obtain ⟨hd, rfl⟩ := hd; exact XT.ixor X.here C.exec rfl (hb C.bys hd) rfl k) h
theorem go_lxor {x : Int64} {z : Int64} (hd : Dc bytes pc .lxor 1 nx) (h : Go C nx L (.long (x ^^^ z) :: S) H cells slots) : Go C pc L (.long z :: .long x :: S) H cells slots :=
  go_pure (fun T _ _ _ X t k => by obtain ⟨hd, rfl⟩ := hd; exact XT.lxor X.here C.exec rfl (hb C.bys hd) rfl k) h
theorem go_ishl {x : Int32} {z : Int32} (hd : Dc bytes pc .ishl 1 nx) (h : Go C nx L (.int (x <<< (z &&& 31)) :: S) H cells slots) : Go C pc L (.int z :: .int x :: S) H cells slots :=
  go_pure (fun T _ _ _ X t k => by obtain ⟨hd, rfl⟩ := hd; exact XT.ishl X.here C.exec rfl (hb C.bys hd) rfl k) h
theorem go_ishr {x : Int32} {z : Int32} (hd : Dc bytes pc .ishr 1 nx) (h : Go C nx L (.int (x >>> (z &&& 31)) :: S) H cells slots) : Go C pc L (.int z :: .int x :: S) H cells slots :=
  go_pure (fun T _ _ _ X t k => by obtain ⟨hd, rfl⟩ := hd; exact XT.ishr X.here C.exec rfl (hb C.bys hd) rfl k) h
theorem go_iushr {x : Int32} {z : Int32} (hd : Dc bytes pc .iushr 1 nx) (h : Go C nx L (.int (XT.ushr x z) :: S) H cells slots) : Go C pc L (.int z :: .int x :: S) H cells slots :=
  go_pure (fun T _ _ _ X t k => by obtain ⟨hd, rfl⟩ := hd; exact XT.iushr X.here C.exec rfl (hb C.bys hd) rfl k) h
theorem go_lshl {x : Int64} {z : Int32} (hd : Dc bytes pc .lshl 1 nx) (h : Go C nx L (.long (x <<< (z.toInt64 &&& 63)) :: S) H cells slots) : Go C pc L (.int z :: .long x :: S) H cells slots :=
  go_pure (fun T _ _ _ X t k => by obtain ⟨hd, rfl⟩ := hd; exact XT.lshl X.here C.exec rfl (hb C.bys hd) rfl k) h
theorem go_lshr {x : Int64} {z : Int32} (hd : Dc bytes pc .lshr 1 nx) (h : Go C nx L (.long (x >>> (z.toInt64 &&& 63)) :: S) H cells slots) : Go C pc L (.int z :: .long x :: S) H cells slots :=
  go_pure (fun T _ _ _ X t k => by obtain ⟨hd, rfl⟩ := hd; exact XT.lshr X.here C.exec rfl (hb C.bys hd) rfl k) h
theorem go_lushr {x : Int64} {z : Int32} (hd : Dc bytes pc .lushr 1 nx) (h : Go C nx L (.long (XT.ushrL x z) :: S) H cells slots) : Go C pc L (.int z :: .long x :: S) H cells slots :=
  go_pure (fun T _ _ _ X t k => by obtain ⟨hd, rfl⟩ := hd; exact XT.lushr X.here C.exec rfl (hb C.bys hd) rfl k) h
theorem go_ineg {x : Int32} (hd : Dc bytes pc .ineg 1 nx) (h : Go C nx L (.int (-x) :: S) H cells slots) : Go C pc L (.int x :: S) H cells slots :=
  go_pure (fun T _ _ _ X t k => by obtain ⟨hd, rfl⟩ := hd; exact XS.ineg X.here C.exec rfl (hb C.bys hd) rfl k) h
theorem go_lneg {x : Int64} (hd : Dc bytes pc .lneg 1 nx) (h : Go C nx L (.long (-x) :: S) H cells slots) : Go C pc L (.long x :: S) H cells slots :=
  go_pure (fun T _ _ _ X t k => by obtain ⟨hd, rfl⟩ := hd; exact XT.lneg X.here C.exec rfl (hb C.bys hd) rfl k) h
theorem go_i2l {x : Int32} (hd : Dc bytes pc .i2l 1 nx) (h : Go C nx L (.long (x.toInt64) :: S) H cells slots) : Go C pc L (.int x :: S) H cells slots :=
  go_pure (fun T _ _ _ X t k => by obtain ⟨hd, rfl⟩ := hd; exact XT.i2l X.here C.exec rfl (hb C.bys hd) rfl k) h
theorem go_l2i {x : Int64} (hd : Dc bytes pc .l2i 1 nx) (h : Go C nx L (.int (x.toInt32) :: S) H cells slots) : Go C pc L (.long x :: S) H cells slots :=
  go_pure (fun T _ _ _ X t k => by obtain ⟨hd, rfl⟩ := hd; exact XT.l2i X.here C.exec rfl (hb C.bys hd) rfl k) h
theorem go_i2b {x : Int32} (hd : Dc bytes pc .i2b 1 nx) (h : Go C nx L (.int (x.toInt8.toInt32) :: S) H cells slots) : Go C pc L (.int x :: S) H cells slots :=
  go_pure (fun T _ _ _ X t k => by obtain ⟨hd, rfl⟩ := hd; exact XT.i2b X.here C.exec rfl (hb C.bys hd) rfl k) h
theorem go_i2c {x : Int32} (hd : Dc bytes pc .i2c 1 nx) (h : Go C nx L (.int (x.toUInt32.toUInt16.toUInt32.toInt32) :: S) H cells slots) : Go C pc L (.int x :: S) H cells slots :=
  go_pure (fun T _ _ _ X t k => by obtain ⟨hd, rfl⟩ := hd; exact XT.i2c X.here C.exec rfl (hb C.bys hd) rfl k) h
theorem go_i2s {x : Int32} (hd : Dc bytes pc .i2s 1 nx) (h : Go C nx L (.int (x.toInt16.toInt32) :: S) H cells slots) : Go C pc L (.int x :: S) H cells slots :=
  go_pure (fun T _ _ _ X t k => by obtain ⟨hd, rfl⟩ := hd; exact XT.i2s X.here C.exec rfl (hb C.bys hd) rfl k) h
theorem go_idiv {x z : Int32} (hd : Dc bytes pc .idiv 1 nx) (hz : z ≠ 0) (h : Go C nx L (.int (x / z) :: S) H cells slots) : Go C pc L (.int z :: .int x :: S) H cells slots :=
  go_pure (fun T _ _ _ X t k => by obtain ⟨hd, rfl⟩ := hd; exact XS.idiv X.here C.exec rfl (hb C.bys hd) rfl hz k) h
theorem go_irem {x z : Int32} (hd : Dc bytes pc .irem 1 nx) (hz : z ≠ 0) (h : Go C nx L (.int (x % z) :: S) H cells slots) : Go C pc L (.int z :: .int x :: S) H cells slots :=
  go_pure (fun T _ _ _ X t k => by obtain ⟨hd, rfl⟩ := hd; exact iremM X C.exec rfl (hb C.bys hd) rfl hz k) h
theorem go_dup {v : Value} (hd : Dc bytes pc .dup 1 nx) (hc : v.category = 1) (h : Go C nx L (v :: v :: S) H cells slots) : Go C pc L (v :: S) H cells slots :=
  go_pure (fun T _ _ _ X t k => by obtain ⟨hd, rfl⟩ := hd; exact XS.dup X.here C.exec rfl (hb C.bys hd) rfl ((cat_up b v).trans hc) k) h
theorem go_dupX1 {v w : Value} (hd : Dc bytes pc .dup_x1 1 nx) (hc : v.category = 1) (hc' : w.category = 1) (h : Go C nx L (v :: w :: v :: S) H cells slots) : Go C pc L (v :: w :: S) H cells slots :=
  go_pure (fun T _ _ _ X t k => by obtain ⟨hd, rfl⟩ := hd; exact XT.dupX1 X.here C.exec rfl (hb C.bys hd) rfl ((cat_up b v).trans hc) ((cat_up b w).trans hc') k) h
theorem go_dup2 {v w : Value} (hd : Dc bytes pc .dup2 1 nx) (hc : v.category = 1) (hc' : w.category = 1) (h : Go C nx L (v :: w :: v :: w :: S) H cells slots) : Go C pc L (v :: w :: S) H cells slots :=
  go_pure (fun T _ _ _ X t k => by obtain ⟨hd, rfl⟩ := hd; exact XT.dup2 X.here C.exec rfl (hb C.bys hd) rfl ((cat_up b v).trans hc) ((cat_up b w).trans hc') k) h
theorem go_dup2L {x : Int64} (hd : Dc bytes pc .dup2 1 nx) (h : Go C nx L (.long x :: .long x :: S) H cells slots) : Go C pc L (.long x :: S) H cells slots :=
  go_pure (fun T _ _ _ X t k => by obtain ⟨hd, rfl⟩ := hd; exact XT.dup2L X.here C.exec rfl (hb C.bys hd) rfl k) h
theorem go_pop {v : Value} (hd : Dc bytes pc .pop 1 nx) (hc : v.category = 1) (h : Go C nx L S H cells slots) : Go C pc L (v :: S) H cells slots :=
  go_pure (fun T _ _ _ X t k => by obtain ⟨hd, rfl⟩ := hd; exact XT.pop X.here C.exec rfl (hb C.bys hd) rfl ((cat_up b v).trans hc) k) h
theorem go_goto {o : Int} (hd : Dc bytes pc (.goto o) 3 nx) (ht : (pc : Int) + o = (tg : Nat)) (h : Go C tg L S H cells slots) : Go C pc L S H cells slots :=
  go_pure (fun T _ _ _ X t k => XS.goto X.here C.exec rfl (pc0 := pc) (pc' := tg) rfl (hb C.bys hd.1) (by omega) (by omega) k) h
theorem go_icmp {cd : ClassFile.Cond} {o : Int} {x z : Int32} (hd : Dc bytes pc (.if_icmp cd o) 3 nx) (ht : (pc : Int) + o = (tg : Nat)) (h1 : if_icmp.holds cd x z = true → Go C tg L S H cells slots) (h2 : if_icmp.holds cd x z = false → Go C nx L S H cells slots) : Go C pc L (.int z :: .int x :: S) H cells slots := by
  cases q : if_icmp.holds cd x z
  · exact go_pure (fun T _ _ _ X t k => by obtain ⟨hd, rfl⟩ := hd; exact XS.icmpNo X.here C.exec rfl (hb C.bys hd) rfl q k) (h2 q)
  · exact go_pure (fun T _ _ _ X t k => XS.icmpYes X.here C.exec rfl (pc0 := pc) (pc' := tg) rfl (hb C.bys hd.1) rfl q (by omega) (by omega) k) (h1 q)
theorem go_if {cd : ClassFile.Cond} {o : Int} {x : Int32} (hd : Dc bytes pc (.ifCond cd o) 3 nx) (ht : (pc : Int) + o = (tg : Nat)) (h1 : if_icmp.holds cd x 0 = true → Go C tg L S H cells slots) (h2 : if_icmp.holds cd x 0 = false → Go C nx L S H cells slots) : Go C pc L (.int x :: S) H cells slots := by
  cases q : if_icmp.holds cd x 0
  · exact go_pure (fun T _ _ _ X t k => by obtain ⟨hd, rfl⟩ := hd; exact XS.ifNo X.here C.exec rfl (hb C.bys hd) rfl ((if0 _ _).trans q) k) (h2 q)
  · exact go_pure (fun T _ _ _ X t k => XS.ifYes X.here C.exec rfl (pc0 := pc) (pc' := tg) rfl (hb C.bys hd.1) rfl ((if0 _ _).trans q) (by omega) (by omega) k) (h1 q)
theorem h_eq {x z : Int32} {B : Bool} (q : if_icmp.holds .eq x z = B) : B = true ↔ x = z := by subst q; simp [if_icmp.holds]
theorem h_ne {x z : Int32} {B : Bool} (q : if_icmp.holds .ne x z = B) : B = true ↔ ¬ x = z := by subst q; simp [if_icmp.holds]
theorem h_lt {x z : Int32} {B : Bool} (q : if_icmp.holds .lt x z = B) : B = true ↔ x.toInt < z.toInt := by subst q; simp [if_icmp.holds, Int32.lt_iff_toInt_lt]
theorem h_ge {x z : Int32} {B : Bool} (q : if_icmp.holds .ge x z = B) : B = true ↔ z.toInt ≤ x.toInt := by subst q; simp [if_icmp.holds, Int32.le_iff_toInt_le]
theorem h_gt {x z : Int32} {B : Bool} (q : if_icmp.holds .gt x z = B) : B = true ↔ z.toInt < x.toInt := by subst q; simp [if_icmp.holds, Int32.lt_iff_toInt_lt]
theorem h_le {x z : Int32} {B : Bool} (q : if_icmp.holds .le x z = B) : B = true ↔ x.toInt ≤ z.toInt := by subst q; simp [if_icmp.holds, Int32.le_iff_toInt_le]
theorem go_iceq {o : Int} {x z : Int32} (hd : Dc bytes pc (.if_icmp .eq o) 3 nx) (ht : (pc : Int) + o = (tg : Nat)) (h1 : x = z → Go C tg L S H cells slots) (h2 : ¬ x = z → Go C nx L S H cells slots) : Go C pc L (.int z :: .int x :: S) H cells slots :=
  go_icmp hd ht (fun q => h1 ((h_eq q).mp rfl)) (fun q => h2 (fun r => Bool.noConfusion ((h_eq q).mpr r)))
theorem go_iceqY {o : Int} {x z : Int32} (hd : Dc bytes pc (.if_icmp .eq o) 3 nx) (ht : (pc : Int) + o = (tg : Nat)) (hc : x = z) (h : Go C tg L S H cells slots) : Go C pc L (.int z :: .int x :: S) H cells slots :=
  go_iceq hd ht (fun _ => h) (fun q => absurd hc (by first | exact q | exact not_not_intro q | omega))
theorem go_iceqN {o : Int} {x z : Int32} (hd : Dc bytes pc (.if_icmp .eq o) 3 nx) (ht : (pc : Int) + o = (tg : Nat)) (hc : ¬ x = z) (h : Go C nx L S H cells slots) : Go C pc L (.int z :: .int x :: S) H cells slots :=
  go_iceq hd ht (fun q => absurd hc (by first | exact q | exact not_not_intro q | omega)) (fun _ => h)
theorem go_ifeq {o : Int} {x : Int32} (hd : Dc bytes pc (.ifCond .eq o) 3 nx) (ht : (pc : Int) + o = (tg : Nat)) (h1 : x = 0 → Go C tg L S H cells slots) (h2 : ¬ x = 0 → Go C nx L S H cells slots) : Go C pc L (.int x :: S) H cells slots :=
  go_if hd ht (fun q => h1 ((h_eq q).mp rfl)) (fun q => h2 (fun r => Bool.noConfusion ((h_eq q).mpr r)))
theorem go_ifeqY {o : Int} {x : Int32} (hd : Dc bytes pc (.ifCond .eq o) 3 nx) (ht : (pc : Int) + o = (tg : Nat)) (hc : x = 0) (h : Go C tg L S H cells slots) : Go C pc L (.int x :: S) H cells slots :=
  go_ifeq hd ht (fun _ => h) (fun q => absurd hc (by first | exact q | exact not_not_intro q | omega))
theorem go_ifeqN {o : Int} {x : Int32} (hd : Dc bytes pc (.ifCond .eq o) 3 nx) (ht : (pc : Int) + o = (tg : Nat)) (hc : ¬ x = 0) (h : Go C nx L S H cells slots) : Go C pc L (.int x :: S) H cells slots :=
  go_ifeq hd ht (fun q => absurd hc (by first | exact q | exact not_not_intro q | omega)) (fun _ => h)
theorem go_icne {o : Int} {x z : Int32} (hd : Dc bytes pc (.if_icmp .ne o) 3 nx) (ht : (pc : Int) + o = (tg : Nat)) (h1 : ¬ x = z → Go C tg L S H cells slots) (h2 : x = z → Go C nx L S H cells slots) : Go C pc L (.int z :: .int x :: S) H cells slots :=
  go_icmp hd ht (fun q => h1 ((h_ne q).mp rfl)) (fun q => h2 (Decidable.not_not.mp fun r => Bool.noConfusion ((h_ne q).mpr r)))
theorem go_icneY {o : Int} {x z : Int32} (hd : Dc bytes pc (.if_icmp .ne o) 3 nx) (ht : (pc : Int) + o = (tg : Nat)) (hc : ¬ x = z) (h : Go C tg L S H cells slots) : Go C pc L (.int z :: .int x :: S) H cells slots :=
  go_icne hd ht (fun _ => h) (fun q => absurd hc (by first | exact q | exact not_not_intro q | omega))
theorem go_icneN {o : Int} {x z : Int32} (hd : Dc bytes pc (.if_icmp .ne o) 3 nx) (ht : (pc : Int) + o = (tg : Nat)) (hc : x = z) (h : Go C nx L S H cells slots) : Go C pc L (.int z :: .int x :: S) H cells slots :=
  go_icne hd ht (fun q => absurd hc (by first | exact q | exact not_not_intro q | omega)) (fun _ => h)
theorem go_ifne {o : Int} {x : Int32} (hd : Dc bytes pc (.ifCond .ne o) 3 nx) (ht : (pc : Int) + o = (tg : Nat)) (h1 : ¬ x = 0 → Go C tg L S H cells slots) (h2 : x = 0 → Go C nx L S H cells slots) : Go C pc L (.int x :: S) H cells slots :=
  go_if hd ht (fun q => h1 ((h_ne q).mp rfl)) (fun q => h2 (Decidable.not_not.mp fun r => Bool.noConfusion ((h_ne q).mpr r)))
theorem go_ifneY {o : Int} {x : Int32} (hd : Dc bytes pc (.ifCond .ne o) 3 nx) (ht : (pc : Int) + o = (tg : Nat)) (hc : ¬ x = 0) (h : Go C tg L S H cells slots) : Go C pc L (.int x :: S) H cells slots :=
  go_ifne hd ht (fun _ => h) (fun q => absurd hc (by first | exact q | exact not_not_intro q | omega))
theorem go_ifneN {o : Int} {x : Int32} (hd : Dc bytes pc (.ifCond .ne o) 3 nx) (ht : (pc : Int) + o = (tg : Nat)) (hc : x = 0) (h : Go C nx L S H cells slots) : Go C pc L (.int x :: S) H cells slots :=
  go_ifne hd ht (fun q => absurd hc (by first | exact q | exact not_not_intro q | omega)) (fun _ => h)
theorem go_iclt {o : Int} {x z : Int32} (hd : Dc bytes pc (.if_icmp .lt o) 3 nx) (ht : (pc : Int) + o = (tg : Nat)) (h1 : x.toInt < z.toInt → Go C tg L S H cells slots) (h2 : z.toInt ≤ x.toInt → Go C nx L S H cells slots) : Go C pc L (.int z :: .int x :: S) H cells slots :=
  go_icmp hd ht (fun q => h1 ((h_lt q).mp rfl)) (fun q => h2 ((by have := mt (h_lt q).mpr (by simp); omega)))
theorem go_icltY {o : Int} {x z : Int32} (hd : Dc bytes pc (.if_icmp .lt o) 3 nx) (ht : (pc : Int) + o = (tg : Nat)) (hc : x.toInt < z.toInt) (h : Go C tg L S H cells slots) : Go C pc L (.int z :: .int x :: S) H cells slots :=
  go_iclt hd ht (fun _ => h) (fun q => absurd hc (by first | exact q | exact not_not_intro q | omega))
theorem go_icltN {o : Int} {x z : Int32} (hd : Dc bytes pc (.if_icmp .lt o) 3 nx) (ht : (pc : Int) + o = (tg : Nat)) (hc : z.toInt ≤ x.toInt) (h : Go C nx L S H cells slots) : Go C pc L (.int z :: .int x :: S) H cells slots :=
  go_iclt hd ht (fun q => absurd hc (by first | exact q | exact not_not_intro q | omega)) (fun _ => h)
theorem go_iflt {o : Int} {x : Int32} (hd : Dc bytes pc (.ifCond .lt o) 3 nx) (ht : (pc : Int) + o = (tg : Nat)) (h1 : x.toInt < 0 → Go C tg L S H cells slots) (h2 : 0 ≤ x.toInt → Go C nx L S H cells slots) : Go C pc L (.int x :: S) H cells slots :=
  go_if hd ht (fun q => h1 ((by have := (h_lt q).mp rfl; simpa using this))) (fun q => h2 ((by have := mt (h_lt q).mpr (by simp); simpa using this)))
theorem go_ifltY {o : Int} {x : Int32} (hd : Dc bytes pc (.ifCond .lt o) 3 nx) (ht : (pc : Int) + o = (tg : Nat)) (hc : x.toInt < 0) (h : Go C tg L S H cells slots) : Go C pc L (.int x :: S) H cells slots :=
  go_iflt hd ht (fun _ => h) (fun q => absurd hc (by first | exact q | exact not_not_intro q | omega))
theorem go_ifltN {o : Int} {x : Int32} (hd : Dc bytes pc (.ifCond .lt o) 3 nx) (ht : (pc : Int) + o = (tg : Nat)) (hc : 0 ≤ x.toInt) (h : Go C nx L S H cells slots) : Go C pc L (.int x :: S) H cells slots :=
  go_iflt hd ht (fun q => absurd hc (by first | exact q | exact not_not_intro q | omega)) (fun _ => h)
theorem go_icge {o : Int} {x z : Int32} (hd : Dc bytes pc (.if_icmp .ge o) 3 nx) (ht : (pc : Int) + o = (tg : Nat)) (h1 : z.toInt ≤ x.toInt → Go C tg L S H cells slots) (h2 : x.toInt < z.toInt → Go C nx L S H cells slots) : Go C pc L (.int z :: .int x :: S) H cells slots :=
  go_icmp hd ht (fun q => h1 ((h_ge q).mp rfl)) (fun q => h2 ((by have := mt (h_ge q).mpr (by simp); omega)))
theorem go_icgeY {o : Int} {x z : Int32} (hd : Dc bytes pc (.if_icmp .ge o) 3 nx) (ht : (pc : Int) + o = (tg : Nat)) (hc : z.toInt ≤ x.toInt) (h : Go C tg L S H cells slots) : Go C pc L (.int z :: .int x :: S) H cells slots :=
  go_icge hd ht (fun _ => h) (fun q => absurd hc (by first | exact q | exact not_not_intro q | omega))
theorem go_icgeN {o : Int} {x z : Int32} (hd : Dc bytes pc (.if_icmp .ge o) 3 nx) (ht : (pc : Int) + o = (tg : Nat)) (hc : x.toInt < z.toInt) (h : Go C nx L S H cells slots) : Go C pc L (.int z :: .int x :: S) H cells slots :=
  go_icge hd ht (fun q => absurd hc (by first | exact q | exact not_not_intro q | omega)) (fun _ => h)
theorem go_ifge {o : Int} {x : Int32} (hd : Dc bytes pc (.ifCond .ge o) 3 nx) (ht : (pc : Int) + o = (tg : Nat)) (h1 : 0 ≤ x.toInt → Go C tg L S H cells slots) (h2 : x.toInt < 0 → Go C nx L S H cells slots) : Go C pc L (.int x :: S) H cells slots :=
  go_if hd ht (fun q => h1 ((by have := (h_ge q).mp rfl; simpa using this))) (fun q => h2 ((by have := mt (h_ge q).mpr (by simp); simpa using this)))
theorem go_ifgeY {o : Int} {x : Int32} (hd : Dc bytes pc (.ifCond .ge o) 3 nx) (ht : (pc : Int) + o = (tg : Nat)) (hc : 0 ≤ x.toInt) (h : Go C tg L S H cells slots) : Go C pc L (.int x :: S) H cells slots :=
  go_ifge hd ht (fun _ => h) (fun q => absurd hc (by first | exact q | exact not_not_intro q | omega))
theorem go_ifgeN {o : Int} {x : Int32} (hd : Dc bytes pc (.ifCond .ge o) 3 nx) (ht : (pc : Int) + o = (tg : Nat)) (hc : x.toInt < 0) (h : Go C nx L S H cells slots) : Go C pc L (.int x :: S) H cells slots :=
  go_ifge hd ht (fun q => absurd hc (by first | exact q | exact not_not_intro q | omega)) (fun _ => h)
theorem go_icgt {o : Int} {x z : Int32} (hd : Dc bytes pc (.if_icmp .gt o) 3 nx) (ht : (pc : Int) + o = (tg : Nat)) (h1 : z.toInt < x.toInt → Go C tg L S H cells slots) (h2 : x.toInt ≤ z.toInt → Go C nx L S H cells slots) : Go C pc L (.int z :: .int x :: S) H cells slots :=
  go_icmp hd ht (fun q => h1 ((h_gt q).mp rfl)) (fun q => h2 ((by have := mt (h_gt q).mpr (by simp); omega)))
theorem go_icgtY {o : Int} {x z : Int32} (hd : Dc bytes pc (.if_icmp .gt o) 3 nx) (ht : (pc : Int) + o = (tg : Nat)) (hc : z.toInt < x.toInt) (h : Go C tg L S H cells slots) : Go C pc L (.int z :: .int x :: S) H cells slots :=
  go_icgt hd ht (fun _ => h) (fun q => absurd hc (by first | exact q | exact not_not_intro q | omega))
theorem go_icgtN {o : Int} {x z : Int32} (hd : Dc bytes pc (.if_icmp .gt o) 3 nx) (ht : (pc : Int) + o = (tg : Nat)) (hc : x.toInt ≤ z.toInt) (h : Go C nx L S H cells slots) : Go C pc L (.int z :: .int x :: S) H cells slots :=
  go_icgt hd ht (fun q => absurd hc (by first | exact q | exact not_not_intro q | omega)) (fun _ => h)
theorem go_ifgt {o : Int} {x : Int32} (hd : Dc bytes pc (.ifCond .gt o) 3 nx) (ht : (pc : Int) + o = (tg : Nat)) (h1 : 0 < x.toInt → Go C tg L S H cells slots) (h2 : x.toInt ≤ 0 → Go C nx L S H cells slots) : Go C pc L (.int x :: S) H cells slots :=
  go_if hd ht (fun q => h1 ((by have := (h_gt q).mp rfl; simpa using this))) (fun q => h2 ((by have := mt (h_gt q).mpr (by simp); simpa using this)))
theorem go_ifgtY {o : Int} {x : Int32} (hd : Dc bytes pc (.ifCond .gt o) 3 nx) (ht : (pc : Int) + o = (tg : Nat)) (hc : 0 < x.toInt) (h : Go C tg L S H cells slots) : Go C pc L (.int x :: S) H cells slots :=
  go_ifgt hd ht (fun _ => h) (fun q => absurd hc (by first | exact q | exact not_not_intro q | omega))
theorem go_ifgtN {o : Int} {x : Int32} (hd : Dc bytes pc (.ifCond .gt o) 3 nx) (ht : (pc : Int) + o = (tg : Nat)) (hc : x.toInt ≤ 0) (h : Go C nx L S H cells slots) : Go C pc L (.int x :: S) H cells slots :=
  go_ifgt hd ht (fun q => absurd hc (by first | exact q | exact not_not_intro q | omega)) (fun _ => h)
theorem go_icle {o : Int} {x z : Int32} (hd : Dc bytes pc (.if_icmp .le o) 3 nx) (ht : (pc : Int) + o = (tg : Nat)) (h1 : x.toInt ≤ z.toInt → Go C tg L S H cells slots) (h2 : z.toInt < x.toInt → Go C nx L S H cells slots) : Go C pc L (.int z :: .int x :: S) H cells slots :=
  go_icmp hd ht (fun q => h1 ((h_le q).mp rfl)) (fun q => h2 ((by have := mt (h_le q).mpr (by simp); omega)))
theorem go_icleY {o : Int} {x z : Int32} (hd : Dc bytes pc (.if_icmp .le o) 3 nx) (ht : (pc : Int) + o = (tg : Nat)) (hc : x.toInt ≤ z.toInt) (h : Go C tg L S H cells slots) : Go C pc L (.int z :: .int x :: S) H cells slots :=
  go_icle hd ht (fun _ => h) (fun q => absurd hc (by first | exact q | exact not_not_intro q | omega))
theorem go_icleN {o : Int} {x z : Int32} (hd : Dc bytes pc (.if_icmp .le o) 3 nx) (ht : (pc : Int) + o = (tg : Nat)) (hc : z.toInt < x.toInt) (h : Go C nx L S H cells slots) : Go C pc L (.int z :: .int x :: S) H cells slots :=
  go_icle hd ht (fun q => absurd hc (by first | exact q | exact not_not_intro q | omega)) (fun _ => h)
theorem go_ifle {o : Int} {x : Int32} (hd : Dc bytes pc (.ifCond .le o) 3 nx) (ht : (pc : Int) + o = (tg : Nat)) (h1 : x.toInt ≤ 0 → Go C tg L S H cells slots) (h2 : 0 < x.toInt → Go C nx L S H cells slots) : Go C pc L (.int x :: S) H cells slots :=
  go_if hd ht (fun q => h1 ((by have := (h_le q).mp rfl; simpa using this))) (fun q => h2 ((by have := mt (h_le q).mpr (by simp); simpa using this)))
theorem go_ifleY {o : Int} {x : Int32} (hd : Dc bytes pc (.ifCond .le o) 3 nx) (ht : (pc : Int) + o = (tg : Nat)) (hc : x.toInt ≤ 0) (h : Go C tg L S H cells slots) : Go C pc L (.int x :: S) H cells slots :=
  go_ifle hd ht (fun _ => h) (fun q => absurd hc (by first | exact q | exact not_not_intro q | omega))
theorem go_ifleN {o : Int} {x : Int32} (hd : Dc bytes pc (.ifCond .le o) 3 nx) (ht : (pc : Int) + o = (tg : Nat)) (hc : 0 < x.toInt) (h : Go C nx L S H cells slots) : Go C pc L (.int x :: S) H cells slots :=
  go_ifle hd ht (fun q => absurd hc (by first | exact q | exact not_not_intro q | omega)) (fun _ => h)
theorem lcm_eq (x z : Int64) : XT.cmpL x z = 0 ↔ x = z := by
  unfold XT.cmpL
  by_cases h1 : z < x
  · rw [if_pos h1]; constructor
    · intro h; cases h
    · rintro rfl; exact (Int64.lt_irrefl h1).elim
  · rw [if_neg h1]; by_cases h2 : x = z
    · rw [if_pos h2]; simp [h2]
    · rw [if_neg h2]; constructor
      · intro h; cases h
      · intro h; exact absurd h h2
theorem lcm_lt (x z : Int64) : (XT.cmpL x z).toInt < 0 ↔ x.toInt < z.toInt := by
  unfold XT.cmpL
  by_cases h1 : z < x
  · rw [if_pos h1]; rw [Int64.lt_iff_toInt_lt] at h1; constructor
    · intro h; exact absurd h (by decide)
    · intro h; omega
  · rw [if_neg h1]; rw [Int64.lt_iff_toInt_lt] at h1; by_cases h2 : x = z
    · rw [if_pos h2]; subst h2; constructor
      · intro h; exact absurd h (by decide)
      · intro h; omega
    · rw [if_neg h2]; have : x.toInt ≠ z.toInt := fun q => h2 (Int64.toInt_inj.mp q)
      constructor
      · intro h; omega
      · intro h; decide
theorem lcm_gt (x z : Int64) : 0 < (XT.cmpL x z).toInt ↔ z.toInt < x.toInt := by
  unfold XT.cmpL
  by_cases h1 : z < x
  · rw [if_pos h1]; rw [Int64.lt_iff_toInt_lt] at h1; constructor
    · intro h; omega
    · intro h; decide
  · rw [if_neg h1]; rw [Int64.lt_iff_toInt_lt] at h1; by_cases h2 : x = z
    · rw [if_pos h2]; subst h2; constructor
      · intro h; exact absurd h (by decide)
      · intro h; omega
    · rw [if_neg h2]; constructor
      · intro h; exact absurd h (by decide)
      · intro h; omega
theorem go_lcmp {x z : Int64} (hd : Dc bytes pc .lcmp 1 nx) (h : Go C nx L (.int (XT.cmpL x z) :: S) H cells slots) : Go C pc L (.long z :: .long x :: S) H cells slots :=
  go_pure (fun T _ _ _ X t k => by obtain ⟨hd, rfl⟩ := hd; exact XT.lcmp X.here C.exec rfl (hb C.bys hd) rfl k) h
theorem go_lceq {o : Int} {x z : Int64} {p1 : Nat} (hd1 : Dc bytes pc .lcmp 1 p1) (hd : Dc bytes p1 (.ifCond .eq o) 3 nx) (ht : (p1 : Int) + o = (tg : Nat)) (h1 : x = z → Go C tg L S H cells slots) (h2 : ¬ x = z → Go C nx L S H cells slots) : Go C pc L (.long z :: .long x :: S) H cells slots :=
  go_lcmp hd1 (go_ifeq hd ht (fun q => h1 ((lcm_eq x z).mp q)) (fun q => h2 (fun r => q ((lcm_eq x z).mpr r))))
theorem go_lcne {o : Int} {x z : Int64} {p1 : Nat} (hd1 : Dc bytes pc .lcmp 1 p1) (hd : Dc bytes p1 (.ifCond .ne o) 3 nx) (ht : (p1 : Int) + o = (tg : Nat)) (h1 : ¬ x = z → Go C tg L S H cells slots) (h2 : x = z → Go C nx L S H cells slots) : Go C pc L (.long z :: .long x :: S) H cells slots :=
  go_lcmp hd1 (go_ifne hd ht (fun q => h1 (fun r => q ((lcm_eq x z).mpr r))) (fun q => h2 ((lcm_eq x z).mp q)))
theorem go_lclt {o : Int} {x z : Int64} {p1 : Nat} (hd1 : Dc bytes pc .lcmp 1 p1) (hd : Dc bytes p1 (.ifCond .lt o) 3 nx) (ht : (p1 : Int) + o = (tg : Nat)) (h1 : x.toInt < z.toInt → Go C tg L S H cells slots) (h2 : z.toInt ≤ x.toInt → Go C nx L S H cells slots) : Go C pc L (.long z :: .long x :: S) H cells slots :=
  go_lcmp hd1 (go_iflt hd ht (fun q => h1 (by have := lcm_lt x z; omega)) (fun q => h2 (by have := lcm_lt x z; omega)))
theorem go_lcge {o : Int} {x z : Int64} {p1 : Nat} (hd1 : Dc bytes pc .lcmp 1 p1) (hd : Dc bytes p1 (.ifCond .ge o) 3 nx) (ht : (p1 : Int) + o = (tg : Nat)) (h1 : z.toInt ≤ x.toInt → Go C tg L S H cells slots) (h2 : x.toInt < z.toInt → Go C nx L S H cells slots) : Go C pc L (.long z :: .long x :: S) H cells slots :=
  go_lcmp hd1 (go_ifge hd ht (fun q => h1 (by have := lcm_lt x z; omega)) (fun q => h2 (by have := lcm_lt x z; omega)))
theorem go_lcgt {o : Int} {x z : Int64} {p1 : Nat} (hd1 : Dc bytes pc .lcmp 1 p1) (hd : Dc bytes p1 (.ifCond .gt o) 3 nx) (ht : (p1 : Int) + o = (tg : Nat)) (h1 : z.toInt < x.toInt → Go C tg L S H cells slots) (h2 : x.toInt ≤ z.toInt → Go C nx L S H cells slots) : Go C pc L (.long z :: .long x :: S) H cells slots :=
  go_lcmp hd1 (go_ifgt hd ht (fun q => h1 (by have := lcm_gt x z; omega)) (fun q => h2 (by have := lcm_gt x z; omega)))
theorem go_lcle {o : Int} {x z : Int64} {p1 : Nat} (hd1 : Dc bytes pc .lcmp 1 p1) (hd : Dc bytes p1 (.ifCond .le o) 3 nx) (ht : (p1 : Int) + o = (tg : Nat)) (h1 : x.toInt ≤ z.toInt → Go C tg L S H cells slots) (h2 : z.toInt < x.toInt → Go C nx L S H cells slots) : Go C pc L (.long z :: .long x :: S) H cells slots :=
  go_lcmp hd1 (go_ifle hd ht (fun q => h1 (by have := lcm_gt x z; omega)) (fun q => h2 (by have := lcm_gt x z; omega)))
theorem go_acmp {cd : ACond} {o : Int} {v w : Value} {same : Bool} (hd : Dc bytes pc (.if_acmp cd o) 3 nx) (hv : v.isRef = true) (hw : w.isRef = true) (hs : decide (v = w) = same) (ht : (pc : Int) + o = (tg : Nat)) (h : Go C (if acV cd same = true then tg else nx) L S H cells slots) : Go C pc L (w :: v :: S) H cells slots :=
  go_pure (fun T _ _ _ X t k => by
    obtain ⟨hd, rfl⟩ := hd
    refine Jvm.RoadKit.acmp (g := frm b m pc L (w :: v :: S)) X C.exec rfl ((isRef_up b v).trans hv) ((isRef_up b w).trans hw) (pc0 := pc) (same := same) rfl (hb C.bys hd) rfl ?_ (by omega) (pc' := if acV cd same = true then tg else pc + 3) ?_ k
    · rw [← hs]
      have : upV b v = upV b w ↔ v = w := by
        constructor
        · intro q; cases v <;> cases w <;> simp_all [upV, Value.isRef]
        · intro q; rw [q]
      simp [this]
    · congr 1; omega) h
theorem go_ifnull_null {o : Int} (hd : Dc bytes pc (.ifnull o) 3 nx) (ht : (pc : Int) + o = (tg : Nat)) (h : Go C tg L S H cells slots) : Go C pc L (.null :: S) H cells slots :=
  go_pure (fun T _ _ _ X t k => XS.ifnullYes X.here C.exec rfl (pc0 := pc) (pc' := tg) rfl (hb C.bys hd.1) rfl (by omega) (by omega) k) h
theorem go_ifnull_ref {o : Int} {a : Nat} (hd : Dc bytes pc (.ifnull o) 3 nx) (h : Go C nx L S H cells slots) : Go C pc L (.ref a :: S) H cells slots :=
  go_pure (fun T _ _ _ X t k => by obtain ⟨hd, rfl⟩ := hd; exact XS.ifnullNo X.here C.exec rfl (hb C.bys hd) rfl k) h
theorem go_ifnonnull_ref {o : Int} {a : Nat} (hd : Dc bytes pc (.ifnonnull o) 3 nx) (ht : (pc : Int) + o = (tg : Nat)) (h : Go C tg L S H cells slots) : Go C pc L (.ref a :: S) H cells slots :=
  go_pure (fun T _ _ _ X t k => XT.ifnonnullYes X.here C.exec rfl (pc0 := pc) (pc' := tg) rfl (hb C.bys hd.1) rfl (by omega) (by omega) k) h
def oneS : Slot → Bool
  | .unset => true
  | .val v => v.category == 1
  | .second => false
def notL : Slot → Bool
  | .unset => true
  | .val v => v.category == 1
  | .second => true
theorem oneS_up {o : Slot} (h : oneS o = true) : upS b o = .unset ∨ ∃ w, upS b o = .val w ∧ w.category = 1 := by
  cases o with
  | unset => exact Or.inl rfl
  | second => cases h
  | val v => exact Or.inr ⟨_, rfl, (cat_up b v).trans (by simpa [oneS] using h)⟩
theorem set_up (k : Nat) (v : Value) : (L.map (upS b)).toArray.setIfInBounds k (.val (upV b v)) = ((L.set k (.val v)).map (upS b)).toArray := by
  simp [List.map_set, upS]
theorem sto1 {k : Nat} {o : Slot} {v : Value} (hk : L[k]? = some o) (ho : oneS o = true) (hv : v.category = 1) : storeLocals (L.map (upS b)).toArray k (upV b v) = some ((L.set k (.val v)).map (upS b)).toArray := by
  rw [XS.store1 (getL hk) (oneS_up ho) ((cat_up b v).trans hv), set_up]
theorem sto2 {k : Nat} {o o' : Slot} {x : Int64} (hk : L[k]? = some o) (hk' : L[k + 1]? = some o') (ho : oneS o = true ∨ ∃ z, o = .val (.long z)) (ho' : notL o' = true) : storeLocals (L.map (upS b)).toArray k (.long x) = some (((L.set k (.val (.long x))).set (k + 1) .second).map (upS b)).toArray := by
  obtain ⟨A, hA⟩ : ∃ A, A = (L.map (upS b)).toArray := ⟨_, rfl⟩
  have e0 := getL (b := b) hk
  have e1 := getL (b := b) hk'
  have fin : ((L.map (upS b)).toArray.setIfInBounds k (.val (.long x))).setIfInBounds (k + 1) .second = (((L.set k (.val (.long x))).set (k + 1) .second).map (upS b)).toArray := by
    simp [List.map_set, upS, upV]
  rw [← fin]
  rw [← hA] at e0 e1 ⊢
  clear hA fin
  have i0 : k < A.size := (Array.getElem?_eq_some_iff.mp e0).1
  have i1 : k + 1 < A.size := (Array.getElem?_eq_some_iff.mp e1).1
  have s1 : ∀ B : Array Slot, B.size = A.size → setAt B (k + 1) .second = some (B.setIfInBounds (k + 1) .second) := fun B hB => by simp [setAt, hB, i1]
  have self : ∀ (B : Array Slot) (u : Slot), B.size = A.size → B[k + 1]? = some u → (∀ w, u = .val w → w.category ≠ 2) → storeSelf B k (.long x) = some ((B.setIfInBounds k (.val (.long x))).setIfInBounds (k + 1) .second) := by
    intro B u hB hu hc
    have e2 : (B.setIfInBounds k (.val (.long x)))[k + 1]? = some u := by
      rw [Array.getElem?_setIfInBounds_ne (by omega)]; exact hu
    have e3 : setAt B k (.val (.long x)) = some (B.setIfInBounds k (.val (.long x))) := by simp [setAt, hB, i0]
    have e4 := s1 (B.setIfInBounds k (.val (.long x))) (by simp [hB])
    unfold storeSelf
    rw [e3]
    simp only [Option.bind_eq_bind, Option.bind_some, Value.category, if_true, e2]
    cases u with
    | unset => exact e4
    | second => exact e4
    | val w =>
      have := hc w rfl
      simp only [Value.category] at this
      simp only [this, if_false]
      exact e4
  have n1 : ∀ w, upS b o' = .val w → w.category ≠ 2 := by
    intro w hw
    cases o' with
    | unset => cases hw
    | second => cases hw
    | val v => cases hw; rw [cat_up]; intro q; simp [notL, q] at ho'
  rcases ho with ho | ⟨z, rfl⟩
  · have a1 := oneS_up (b := b) ho
    have step : storeLocals A k (.long x) = storeSelf A k (.long x) := by
      rcases a1 with a1 | ⟨w, a1, a2⟩
      · simp [storeLocals, e0, a1]
      · simp [storeLocals, e0, a1, a2]
    rw [step]
    exact self A _ rfl e1 n1
  · have step : storeLocals A k (.long x) = storeSelf (A.setIfInBounds (k + 1) .unset) k (.long x) := by
      have e3 : setAt A (k + 1) .unset = some (A.setIfInBounds (k + 1) .unset) := by simp [setAt, i1]
      unfold storeLocals
      rw [e0]
      simp only [upS, upV, Option.bind_eq_bind, Option.bind_some, Value.category, if_true, e3]
    rw [step, self (A.setIfInBounds (k + 1) .unset) .unset (by simp) (by simp [i1]) (fun w hw => by cases hw)]
    congr 1
    apply Array.ext_getElem?
    intro j
    simp only [Array.getElem?_setIfInBounds]
    by_cases q : k + 1 = j
    · subst q; simp
    · simp [q]
theorem go_istore {k : Nat} {o : Slot} {x : Int32} (hd : Dc bytes pc (.istore k) 2 nx) (hk : L[k]? = some o) (ho : oneS o = true) (h : Go C nx (L.set k (.val (.int x))) S H cells slots) : Go C pc L (.int x :: S) H cells slots :=
  go_pure (fun T _ _ _ X t r => by obtain ⟨hd, rfl⟩ := hd; exact XS.istore X.here C.exec rfl (hb C.bys hd) rfl (sto1 (v := .int x) hk ho rfl) r) h
theorem go_istoreN {k : Fin 4} {o : Slot} {x : Int32} (hd : Dc bytes pc (.istore_n k) 1 nx) (hk : L[k.val]? = some o) (ho : oneS o = true) (h : Go C nx (L.set k.val (.val (.int x))) S H cells slots) : Go C pc L (.int x :: S) H cells slots :=
  go_pure (fun T _ _ _ X t r => by obtain ⟨hd, rfl⟩ := hd; exact XS.istoreN X.here C.exec rfl (hb C.bys hd) rfl (sto1 (v := .int x) hk ho rfl) r) h
theorem cat_ref {v : Value} (h : v.isRef = true) : v.category = 1 := by cases v <;> first | rfl | cases h
theorem go_astore {k : Nat} {o : Slot} {v : Value} (hd : Dc bytes pc (.astore k) 2 nx) (hk : L[k]? = some o) (ho : oneS o = true) (hv : v.isRef = true) (h : Go C nx (L.set k (.val v)) S H cells slots) : Go C pc L (v :: S) H cells slots :=
  go_pure (fun T _ _ _ X t r => by obtain ⟨hd, rfl⟩ := hd; exact XS.astore X.here C.exec rfl (hb C.bys hd) rfl ((isRef_up b v).trans hv) (sto1 (v := v) hk ho (cat_ref hv)) r) h
theorem go_astoreN {k : Fin 4} {o : Slot} {v : Value} (hd : Dc bytes pc (.astore_n k) 1 nx) (hk : L[k.val]? = some o) (ho : oneS o = true) (hv : v.isRef = true) (h : Go C nx (L.set k.val (.val v)) S H cells slots) : Go C pc L (v :: S) H cells slots :=
  go_pure (fun T _ _ _ X t r => by obtain ⟨hd, rfl⟩ := hd; exact XS.astoreN X.here C.exec rfl (hb C.bys hd) rfl ((isRef_up b v).trans hv) (sto1 (v := v) hk ho (cat_ref hv)) r) h
theorem go_lstore {k : Nat} {o o' : Slot} {x : Int64} (hd : Dc bytes pc (.lstore k) 2 nx) (hk : L[k]? = some o) (hk' : L[k + 1]? = some o') (ho : oneS o = true ∨ ∃ z, o = .val (.long z)) (ho' : notL o' = true) (h : Go C nx ((L.set k (.val (.long x))).set (k + 1) .second) S H cells slots) : Go C pc L (.long x :: S) H cells slots :=
  go_pure (fun T _ _ _ X t r => by obtain ⟨hd, rfl⟩ := hd; exact XT.lstore X.here C.exec rfl (hb C.bys hd) rfl (sto2 hk hk' ho ho') r) h
theorem go_lstoreN {k : Fin 4} {o o' : Slot} {x : Int64} (hd : Dc bytes pc (.lstore_n k) 1 nx) (hk : L[k.val]? = some o) (hk' : L[k.val + 1]? = some o') (ho : oneS o = true ∨ ∃ z, o = .val (.long z)) (ho' : notL o' = true) (h : Go C nx ((L.set k.val (.val (.long x))).set (k.val + 1) .second) S H cells slots) : Go C pc L (.long x :: S) H cells slots :=
  go_pure (fun T _ _ _ X t r => by obtain ⟨hd, rfl⟩ := hd; exact XT.lstoreN X.here C.exec rfl (hb C.bys hd) rfl (sto2 hk hk' ho ho') r) h
theorem go_iinc {k : Nat} {i : Int} {x z : Int32} (hd : Dc bytes pc (.iinc k i) 3 nx) (hk : L[k]? = some (.val (.int x))) (hz : Int32.ofInt i = z) (h : Go C nx (L.set k (.val (.int (x + z)))) S H cells slots) : Go C pc L S H cells slots :=
  go_pure (fun T _ _ _ X t r => by obtain ⟨hd, rfl⟩ := hd; subst hz; exact XS.iinc X.here C.exec rfl (hb C.bys hd) (getL hk) (sto1 (v := .int (x + Int32.ofInt i)) hk rfl rfl) r) h
/-! ### the heap -/
theorem cell_arr {i : Nat} {ty : FieldType} {vs : List Value} {h : Heap} (RR : Rel Z a0 b H h) (hH : H[i]? = some (ar ty vs)) : ∃ c : Cell, Arr Z h (b + i) c ty ∧ c.slots = (vs.map (upV b)).toArray := RR.2 i _ hH
theorem idx_ok {j : Int32} {k n : Nat} (hj : j.toInt = (k : Int)) (hk : k < n) : ¬ (j < 0 ∨ n ≤ j.toNatClampNeg) := by
  rw [Int32.lt_iff_toInt_lt]
  have e0 : (0 : Int32).toInt = 0 := rfl
  simp only [Int32.toNatClampNeg, hj, e0]
  omega
theorem clamp_eq {j : Int32} {k : Nat} (hj : j.toInt = (k : Int)) : j.toNatClampNeg = k := by simp [Int32.toNatClampNeg, hj]
theorem go_iaload {i k : Nat} {vs : List Value} {j : Int32} {v : Value} (hd : Dc bytes pc .iaload 1 nx) (hH : H[i]? = some (ar .int vs)) (hj : j.toInt = (k : Int)) (hv : vs[k]? = some v) (h : Go C nx L (v :: S) H cells slots) : Go C pc L (.int j :: .ref i :: S) H cells slots := by
  intro T locs X N RR
  obtain ⟨c1, A, e1⟩ := cell_arr RR hH
  obtain ⟨hd, rfl⟩ := hd
  have hk : k < vs.length := (List.getElem?_eq_some_iff.mp hv).1
  exact (h T locs X N RR).back fun t r => X.iaload C.exec A.1 (State.isArrayOf_alike C.warm.alike A.2.1) A.2.2 (idx_ok hj (by rw [e1]; simpa using hk)) (by rw [clamp_eq hj, e1]; simp [hv]) (g := frm b m pc L (.int j :: .ref i :: S)) rfl rfl (hb C.bys hd) t r
theorem go_laload {i k : Nat} {vs : List Value} {j : Int32} {v : Value} (hd : Dc bytes pc .laload 1 nx) (hH : H[i]? = some (ar .long vs)) (hj : j.toInt = (k : Int)) (hv : vs[k]? = some v) (h : Go C nx L (v :: S) H cells slots) : Go C pc L (.int j :: .ref i :: S) H cells slots := by
  intro T locs X N RR
  obtain ⟨c1, A, e1⟩ := cell_arr RR hH
  obtain ⟨hd, rfl⟩ := hd
  have hk : k < vs.length := (List.getElem?_eq_some_iff.mp hv).1
  exact (h T locs X N RR).back fun t r => X.laload C.exec A.1 (State.isArrayOf_alike C.warm.alike A.2.1) A.2.2 (idx_ok hj (by rw [e1]; simpa using hk)) (by rw [clamp_eq hj, e1]; simp [hv]) (g := frm b m pc L (.int j :: .ref i :: S)) rfl rfl (hb C.bys hd) t r
theorem go_baload {i k : Nat} {vs : List Value} {j : Int32} {v : Value} (hd : Dc bytes pc .baload 1 nx) (hH : H[i]? = some (ar .byte vs)) (hj : j.toInt = (k : Int)) (hv : vs[k]? = some v) (h : Go C nx L (v :: S) H cells slots) : Go C pc L (.int j :: .ref i :: S) H cells slots := by
  intro T locs X N RR
  obtain ⟨c1, A, e1⟩ := cell_arr RR hH
  obtain ⟨hd, rfl⟩ := hd
  have hk : k < vs.length := (List.getElem?_eq_some_iff.mp hv).1
  exact (h T locs X N RR).back fun t r => X.baloadBytes C.exec A.1 (State.isArrayOf_alike C.warm.alike A.2.1) A.2.2 (idx_ok hj (by rw [e1]; simpa using hk)) (by rw [clamp_eq hj, e1]; simp [hv]) (g := frm b m pc L (.int j :: .ref i :: S)) rfl rfl (hb C.bys hd) t r
theorem go_zaload {i k : Nat} {vs : List Value} {j : Int32} {v : Value} (hd : Dc bytes pc .baload 1 nx) (hH : H[i]? = some (ar .boolean vs)) (hj : j.toInt = (k : Int)) (hv : vs[k]? = some v) (h : Go C nx L (v :: S) H cells slots) : Go C pc L (.int j :: .ref i :: S) H cells slots := by
  intro T locs X N RR
  obtain ⟨c1, A, e1⟩ := cell_arr RR hH
  obtain ⟨hd, rfl⟩ := hd
  have hk : k < vs.length := (List.getElem?_eq_some_iff.mp hv).1
  exact (h T locs X N RR).back fun t r => X.baloadBooleans C.exec A.1 (State.isArrayOf_alike C.warm.alike A.2.1) A.2.2 (idx_ok hj (by rw [e1]; simpa using hk)) (by rw [clamp_eq hj, e1]; simp [hv]) (g := frm b m pc L (.int j :: .ref i :: S)) rfl rfl (hb C.bys hd) t r
theorem go_aaload {i k : Nat} {ty : FieldType} {vs : List Value} {j : Int32} {v : Value} (hd : Dc bytes pc .aaload 1 nx) (hH : H[i]? = some (ar ty vs)) (hty : ty.isReference = true) (hj : j.toInt = (k : Int)) (hv : vs[k]? = some v) (h : Go C nx L (v :: S) H cells slots) : Go C pc L (.int j :: .ref i :: S) H cells slots := by
  intro T locs X N RR
  obtain ⟨c1, A, e1⟩ := cell_arr RR hH
  obtain ⟨hd, rfl⟩ := hd
  have hk : k < vs.length := (List.getElem?_eq_some_iff.mp hv).1
  exact (h T locs X N RR).back fun t r => X.aaload C.exec A.1 (State.isArrayOf_alike C.warm.alike A.2.1) hty A.2.2 (idx_ok hj (by rw [e1]; simpa using hk)) (by rw [clamp_eq hj, e1]; simp [hv]) (g := frm b m pc L (.int j :: .ref i :: S)) rfl rfl (hb C.bys hd) t r
theorem go_len {i : Nat} {ty : FieldType} {vs : List Value} {n : Int32} (hd : Dc bytes pc .arraylength 1 nx) (hH : H[i]? = some (ar ty vs)) (hn : vs.length.toInt32 = n) (h : Go C nx L (.int n :: S) H cells slots) : Go C pc L (.ref i :: S) H cells slots := by
  intro T locs X N RR
  obtain ⟨c1, A, e1⟩ := cell_arr RR hH
  obtain ⟨hd, rfl⟩ := hd
  subst hn
  refine (h T locs X N RR).back fun t k => X.arraylength C.exec A.1 (State.isArrayOf_alike C.warm.alike A.2.1) (g := frm b m pc L (.ref i :: S)) rfl rfl (hb C.bys hd) t ?_
  have e2 : c1.slots.size = vs.length := by rw [e1]; simp
  rw [e2]
  exact k
theorem go_getfield {i j idx : Nat} {Cn n d : String} {fs : List (String × String × Value)} {v : Value} (hd : Dc bytes pc (.getfield idx) 3 nx) (w : Jvm.Cond.fieldLink y.cls idx Cn n d ∈ W) (hH : H[i]? = some (ob Cn fs)) (hf : fs[j]? = some (n, d, v)) (h : Go C nx L (v :: S) H cells slots) : Go C pc L (.ref i :: S) H cells slots := by
  intro T locs X N RR
  obtain ⟨hd, rfl⟩ := hd
  have K : CellOk Z a0 b T.heap (b + i) (ob Cn fs) := RR.2 i _ hH
  obtain ⟨T1, X1, e1, st⟩ := getF X C.exec C.warm C.own (host := "") (Or.inl (C.hw _ w)) Via.refl rfl (K.2.1 _ (List.mem_of_getElem? hf)).1 (g := frm b m pc L (.ref i :: S)) rfl rfl (hb C.bys hd)
  exact (h T1 locs X1 N (by rw [e1]; exact RR)).back st
theorem go_getfieldN {i j idx : Nat} {Cn n d host : String} {fs : List (String × String × Value)} {v : Value} (hd : Dc bytes pc (.getfield idx) 3 nx) (w : Jvm.Cond.fieldLinkNest y.cls idx Cn n d host ∈ W) (hH : H[i]? = some (ob Cn fs)) (hf : fs[j]? = some (n, d, v)) (h : Go C nx L (v :: S) H cells slots) : Go C pc L (.ref i :: S) H cells slots := by
  intro T locs X N RR
  obtain ⟨hd, rfl⟩ := hd
  have K : CellOk Z a0 b T.heap (b + i) (ob Cn fs) := RR.2 i _ hH
  obtain ⟨T1, X1, e1, st⟩ := getF X C.exec C.warm C.own (Or.inr (C.hw _ w)) Via.refl rfl (K.2.1 _ (List.mem_of_getElem? hf)).1 (g := frm b m pc L (.ref i :: S)) rfl rfl (hb C.bys hd)
  exact (h T1 locs X1 N (by rw [e1]; exact RR)).back st
theorem go_putfieldN {i j idx kk : Nat} {Cn n d : String} {fs : List (String × String × Value)} {v v' o : Value} {ty : FieldType} (hd : Dc bytes pc (.putfield idx) 3 nx) (w : Jvm.Cond.fieldLink y.cls idx Cn n d ∈ W) (wl : Jvm.Cond.lays Cn Cn n d ∈ W ∨ (Jvm.Cond.laysFinal Cn Cn n d ∈ W ∧ y.cls = Cn ∧ y.name = "<init>")) (wi : Jvm.Cond.instantiable Cn kk ∈ W) (hty : parseFieldDescriptor d = some ty) (hH : H[i]? = some (ob Cn fs)) (hf : fs[j]? = some (n, d, o)) (hn : narrow ty (upV b v) = upV b v') (hfit : fits ty (upV b v') = true)
    (h : Go C nx L S (H.set i (ob Cn (fs.set j (n, d, v')))) cells slots) : Go C pc L (v :: .ref i :: S) H cells slots := by
  intro T locs X N RR
  obtain ⟨hd, rfl⟩ := hd
  have K : CellOk Z a0 b T.heap (b + i) (ob Cn fs) := RR.2 i _ hH
  obtain ⟨T1, h1, X1, e1, W1, st⟩ := putFN X C.exec C.warm C.own (C.hw _ w) Via.refl rfl (K.2.1 _ (List.mem_of_getElem? hf)).1 K.1 (wl.imp (fun q => C.hw _ q) (fun q => ⟨C.hw _ q.1, q.2.1, C.named.trans q.2.2⟩)) (C.hw _ wi) hty hn hfit (g := frm b m pc L (v :: .ref i :: S)) rfl rfl (hb C.bys hd)
  exact (h T1 _ X1 (Fr.snoc X1 N (Nat.le_add_right ..)) (by rw [e1]; exact RR.wr W1 (K.fset hf W1))).back st
theorem go_putfield {i j idx kk : Nat} {Cn n d : String} {fs : List (String × String × Value)} {v o : Value} {ty : FieldType} (hd : Dc bytes pc (.putfield idx) 3 nx) (w : Jvm.Cond.fieldLink y.cls idx Cn n d ∈ W) (wl : Jvm.Cond.lays Cn Cn n d ∈ W ∨ (Jvm.Cond.laysFinal Cn Cn n d ∈ W ∧ y.cls = Cn ∧ y.name = "<init>")) (wi : Jvm.Cond.instantiable Cn kk ∈ W) (hty : parseFieldDescriptor d = some ty) (hH : H[i]? = some (ob Cn fs)) (hf : fs[j]? = some (n, d, o)) (hn : narrow ty (upV b v) = upV b v) (hfit : fits ty (upV b v) = true)
    (h : Go C nx L S (H.set i (ob Cn (fs.set j (n, d, v)))) cells slots) : Go C pc L (v :: .ref i :: S) H cells slots := go_putfieldN hd w wl wi hty hH hf hn hfit h
theorem go_iastore {i k : Nat} {vs : List Value} {j : Int32} {x : Int32} (hd : Dc bytes pc .iastore 1 nx) (hH : H[i]? = some (ar .int vs)) (hj : j.toInt = (k : Int)) (hk : k < vs.length) (h : Go C nx L S (H.set i (ar .int (vs.set k (.int (x))))) cells slots) : Go C pc L (.int x :: .int j :: .ref i :: S) H cells slots := by
  intro T locs X N RR
  obtain ⟨c1, A, e1⟩ := cell_arr RR hH
  obtain ⟨hd, rfl⟩ := hd
  obtain ⟨T1, h1, X1, eh, W1, st⟩ := stI X C.exec C.warm rfl A (j := j) (idx_ok hj (by rw [e1]; simpa using hk)) (g := frm b m pc L (.int x :: .int j :: .ref i :: S)) rfl rfl (hb C.bys hd)
  rw [clamp_eq hj] at W1
  have K : CellOk Z a0 b h1 (b + i) (ar .int (vs.set k (.int (x)))) := ⟨_, A.same W1, by simp [Cell.setSlot, e1, List.map_set, upV, nar]⟩
  exact (h T1 _ X1 (Fr.snoc X1 N (Nat.le_add_right ..)) (by rw [eh]; exact RR.wr W1 K)).back st
theorem go_lastore {i k : Nat} {vs : List Value} {j : Int32} {x : Int64} (hd : Dc bytes pc .lastore 1 nx) (hH : H[i]? = some (ar .long vs)) (hj : j.toInt = (k : Int)) (hk : k < vs.length) (h : Go C nx L S (H.set i (ar .long (vs.set k (.long (x))))) cells slots) : Go C pc L (.long x :: .int j :: .ref i :: S) H cells slots := by
  intro T locs X N RR
  obtain ⟨c1, A, e1⟩ := cell_arr RR hH
  obtain ⟨hd, rfl⟩ := hd
  obtain ⟨T1, h1, X1, eh, W1, st⟩ := stJ X C.exec C.warm rfl A (j := j) (idx_ok hj (by rw [e1]; simpa using hk)) (g := frm b m pc L (.long x :: .int j :: .ref i :: S)) rfl rfl (hb C.bys hd)
  rw [clamp_eq hj] at W1
  have K : CellOk Z a0 b h1 (b + i) (ar .long (vs.set k (.long (x)))) := ⟨_, A.same W1, by simp [Cell.setSlot, e1, List.map_set, upV, nar]⟩
  exact (h T1 _ X1 (Fr.snoc X1 N (Nat.le_add_right ..)) (by rw [eh]; exact RR.wr W1 K)).back st
theorem go_bastore {i k : Nat} {vs : List Value} {j : Int32} {x : Int32} (hd : Dc bytes pc .bastore 1 nx) (hH : H[i]? = some (ar .byte vs)) (hj : j.toInt = (k : Int)) (hk : k < vs.length) (h : Go C nx L S (H.set i (ar .byte (vs.set k (.int (x.toInt8.toInt32))))) cells slots) : Go C pc L (.int x :: .int j :: .ref i :: S) H cells slots := by
  intro T locs X N RR
  obtain ⟨c1, A, e1⟩ := cell_arr RR hH
  obtain ⟨hd, rfl⟩ := hd
  obtain ⟨T1, h1, X1, eh, W1, st⟩ := stB X C.exec C.warm rfl A (j := j) (idx_ok hj (by rw [e1]; simpa using hk)) (g := frm b m pc L (.int x :: .int j :: .ref i :: S)) rfl rfl (hb C.bys hd)
  rw [clamp_eq hj] at W1
  have K : CellOk Z a0 b h1 (b + i) (ar .byte (vs.set k (.int (x.toInt8.toInt32)))) := ⟨_, A.same W1, by simp [Cell.setSlot, e1, List.map_set, upV, nar]⟩
  exact (h T1 _ X1 (Fr.snoc X1 N (Nat.le_add_right ..)) (by rw [eh]; exact RR.wr W1 K)).back st
theorem go_zastore {i k : Nat} {vs : List Value} {j : Int32} {x : Int32} (hd : Dc bytes pc .bastore 1 nx) (hH : H[i]? = some (ar .boolean vs)) (hj : j.toInt = (k : Int)) (hk : k < vs.length) (h : Go C nx L S (H.set i (ar .boolean (vs.set k (.int (x &&& 1))))) cells slots) : Go C pc L (.int x :: .int j :: .ref i :: S) H cells slots := by
  intro T locs X N RR
  obtain ⟨c1, A, e1⟩ := cell_arr RR hH
  obtain ⟨hd, rfl⟩ := hd
  obtain ⟨T1, h1, X1, eh, W1, st⟩ := stZ X C.exec C.warm rfl A (j := j) (idx_ok hj (by rw [e1]; simpa using hk)) (g := frm b m pc L (.int x :: .int j :: .ref i :: S)) rfl rfl (hb C.bys hd)
  rw [clamp_eq hj] at W1
  have K : CellOk Z a0 b h1 (b + i) (ar .boolean (vs.set k (.int (x &&& 1)))) := ⟨_, A.same W1, by simp [Cell.setSlot, e1, List.map_set, upV, nar]⟩
  exact (h T1 _ X1 (Fr.snoc X1 N (Nat.le_add_right ..)) (by rw [eh]; exact RR.wr W1 K)).back st
/-- the fields of a new object, laid -/
def Laids (Z : State) (a0 : Array Value) (b : Nat) (Cn : String) : List (String × String × Value) → Prop
  | [] => True
  | f :: fs => (Laid Z a0 Cn Cn f.1 f.2.1 ∧ ∃ t, parseFieldDescriptor f.2.1 = some t ∧ defaultValue t = upV b f.2.2) ∧ Laids Z a0 b Cn fs
theorem Laids.all {Cn : String} : ∀ {fs : List (String × String × Value)}, Laids Z a0 b Cn fs → ∀ f ∈ fs, Laid Z a0 Cn Cn f.1 f.2.1 ∧ ∃ t, parseFieldDescriptor f.2.1 = some t ∧ defaultValue t = upV b f.2.2
  | [], _, f, hf => by cases hf
  | g :: gs, h, f, hf => by
    rcases List.mem_cons.mp hf with rfl | hf
    · exact h.1
    · exact Laids.all h.2 f hf
theorem go_new {idx n : Nat} {Cn : String} {fs : List (String × String × Value)} (hd : Dc bytes pc (.new idx) 3 nx) (w : Jvm.Cond.classLink y.cls idx Cn ∈ W) (wi : Jvm.Cond.instantiable Cn n ∈ W) (wz : Jvm.Cond.initialized Cn ∈ W) (hl : Laids Z a0 b Cn fs) (hnd : (fs.map (·.1)).Nodup) (hc : cells + 1 ≤ R.cells) (hs : slots + n ≤ R.slots)
    (h : Go C nx L (.ref H.length :: S) (H ++ [ob Cn fs]) (cells + 1) (slots + n)) : Go C pc L S H cells slots := by
  intro T locs X N RR
  obtain ⟨hd, rfl⟩ := hd
  obtain ⟨vm', cC, kC, h1, h2, h3, h4, X', st⟩ := X.newCold C.exec C.own (mv C.warm (C.hw _ w)) (mv C.warm (C.hw _ wi)) (mv C.warm (C.hw _ wz)) (g := frm b m pc L S) rfl (hb C.bys hd) hc hs
  rw [C.warm.alike.findClass] at h1
  obtain ⟨kZ, z1, -⟩ := Vm.findClass_spec h1
  obtain ⟨k', z2, z3⟩ := C.warm.alike.2.2 _ _ z1
  cases h2.symm.trans z2
  have ei : kC.instanceTypes = kZ.instanceTypes := by rw [z3]
  have hN : (T.heap.push { cls := cC, slots := kC.instanceTypes.map defaultValue, vm := .none })[T.heap.size]? = some { cls := cC, slots := kC.instanceTypes.map defaultValue, vm := .none } := by simp
  have hE : Ext T.heap (T.heap.push { cls := cC, slots := kC.instanceTypes.map defaultValue, vm := .none }) := ⟨by simp, fun a c q => by
    rw [Array.getElem?_push_lt (Array.getElem?_eq_some_iff.mp q).1]; exact (Array.getElem?_eq_getElem _).symm.trans q⟩
  have ea : T.heap.size = b + H.length := RR.1
  have st2 := st
  rw [ea] at st2
  refine (h _ locs X' N (RR.push hE (by simp) ?_)).back st2
  rw [← ea]
  refine ⟨⟨_, kZ, hN, h1, z1, rfl, fun _ => by simp [ei]⟩, fun f hf => ?_, hnd⟩
  obtain ⟨La, t, ht, hdv⟩ := hl.all f hf
  refine ⟨?_, La, t, ht⟩
  obtain ⟨c1, k1, cf, kf, i, ff, a1, a2, a3, a4, a5, a6, -⟩ := La.spec
  cases h1.symm.trans a1
  cases z1.symm.trans a2
  exact ⟨_, cf, kf, i, ff, hN, a3, a4, by simp, rfl, a5, by simp [ei, a6, (State.fieldFound?_type a3 ht).2, hdv]⟩
theorem up_default (t : FieldType) : upV b (defaultValue t) = defaultValue t := by cases t <;> rfl
theorem go_newarray {aty : ArrayType} {n : Int32} {k cap : Nat} {vs : List Value} (hd : Dc bytes pc (.newarray aty) 2 nx) (w : Jvm.Cond.arrayClass (newarray.typeOf aty) ∈ W) (hn : n.toInt = (k : Int)) (hv : List.replicate k (defaultValue (newarray.typeOf aty)) = vs) (hcap : k ≤ cap) (hbig : cap * 8 ≤ 536870912) (hc : cells + 1 ≤ R.cells) (hs : slots + cap ≤ R.slots)
    (h : Go C nx L (.ref H.length :: S) (H ++ [ar (newarray.typeOf aty) vs]) (cells + 1) (slots + cap)) : Go C pc L (.int n :: S) H cells slots := by
  intro T locs X N RR
  obtain ⟨hd, rfl⟩ := hd
  have hcb : componentBytes (newarray.typeOf aty) ≤ 8 := by cases aty <;> decide
  have ek := clamp_eq hn
  obtain ⟨cA, kA, comp, h1, h2, h3, X', st⟩ := X.newarrayPrim C.exec (mvA C.warm (C.hw _ w)) (g := frm b m pc L (.int n :: S)) rfl (hb C.bys hd) rfl (by rw [Int32.lt_iff_toInt_lt, hn]; have : (0 : Int32).toInt = 0 := rfl; omega) (by rw [ek]; exact Nat.le_trans (Nat.mul_le_mul hcap hcb) hbig) hc (by omega)
  rw [ek] at X' st
  rw [C.warm.alike.findClass] at h1
  obtain ⟨kZ, z1, -⟩ := Vm.findClass_spec h1
  obtain ⟨k', z2, z3⟩ := C.warm.alike.2.2 _ _ z1
  cases h2.symm.trans z2
  have ea : T.heap.size = b + H.length := RR.1
  have hE : Ext T.heap (T.heap.push { cls := cA, slots := Array.replicate k (defaultValue (newarray.typeOf aty)), vm := .none }) := ⟨by simp, fun a c q => by
    rw [Array.getElem?_push_lt (Array.getElem?_eq_some_iff.mp q).1]; exact (Array.getElem?_eq_getElem _).symm.trans q⟩
  have st2 := st
  rw [ea] at st2
  refine (h _ locs (X'.more (Nat.le_refl _) (by omega)) N (RR.push hE (by simp) ?_)).back st2
  rw [← ea]
  refine ⟨_, ⟨by show (T.heap.push _)[T.heap.size]? = _; simp; rfl, ⟨by simp, kZ, z1, comp, by rw [← h3, z3]⟩, by simp⟩, ?_⟩
  subst hv
  simp [up_default]
/-! ### calls -/
theorem go_initO {idx : Nat} (hd : Dc bytes pc (.invokespecial idx) 3 nx) (w1 : Jvm.Cond.methodLink y.cls idx Lib.objectInit ∈ W) (w2 : Jvm.Cond.instanceMethod Lib.objectInit ∈ W) (w3 : Jvm.Cond.code Lib.objectInit ⟨#[0xb1]⟩ 1 none ∈ W) (hL : L.length = nL) (hf : 1 ≤ R.frames) (wdt : Nat) (hwd : (S.map Value.category).sum ≤ wdt) (hlo : wdt + 12 ≤ R.locals) {i : Nat}
    (h : Go C nx L S H cells slots) : Go C pc L (.ref i :: S) H cells slots := by
  intro T locs X N RR
  obtain ⟨hd, rfl⟩ := hd
  obtain ⟨T1, X1, e1, st⟩ := initO X C.exec C.warm C.own (C.hw _ w1) (C.hw _ w2) (C.hw _ w3) rfl (g := frm b m pc L (.ref i :: S)) rfl (by simp [C.ml, hL]) rfl (hb C.bys hd) hf (W := wdt) (by
    have : ((S.map (upV b)).map fun v => v.category) = S.map Value.category := by rw [List.map_map]; exact List.map_congr_left fun v _ => cat_up b v
    show 2 * 0 + ((S.map (upV b)).map fun v => v.category).sum ≤ wdt
    rw [this]; omega) hlo
  exact (h T1 locs X1 N (by rw [e1]; exact RR)).back st
theorem wid_up (wdt : Nat) (hwd : (S.map Value.category).sum ≤ wdt) : 2 * 0 + ((S.map (upV b)).map fun v => v.category).sum ≤ wdt := by
  have : ((S.map (upV b)).map fun v => v.category) = S.map Value.category := by rw [List.map_map]; exact List.map_congr_left fun v _ => cat_up b v
  rw [this]; omega
theorem app_up (v : Option Value) : (v.map (upV b)).toList ++ S.map (upV b) = (v.toList ++ S).map (upV b) := by cases v <;> rfl
theorem go_virtual {y' : MethodName} {bytes' : ByteArray} {maxL : Nat} {ret' : Option FieldType} {rm : Room} {as : List Value} {i idx : Nat} {Cn : String} {fs : List (String × String × Value)} {P : Option Value → List GCell → Prop} {ps : List FieldType} {rt : Option FieldType}
    (hd : Dc bytes pc (.invokevirtual idx) 3 nx) (w1 : Jvm.Cond.methodLink y.cls idx y' ∈ W) (w2 : Jvm.Cond.declares y' ∈ W) (w3 : Jvm.Cond.selects Cn y' y' ∈ W) (w4 : Jvm.Cond.instanceMethod y' ∈ W) (w5 : Jvm.Cond.code y' bytes' maxL ret' ∈ W) (w6 : Jvm.Cond.initialized y'.cls ∈ W)
    (hy : y'.cls ≠ "java/lang/invoke/MethodHandle" ∧ y'.cls ≠ "java/lang/invoke/VarHandle") (hdesc : parseMethodDescriptor y'.desc = some ⟨ps, rt⟩) (hlen : as.length = ps.length)
    (M : Met l Z a0 b y' bytes' maxL ret' rm (.ref i :: as) H P) (hH : H[i]? = some (ob Cn fs)) (hS : S' = as.reverse ++ .ref i :: S) (hL : L.length = nL) (wdt : Nat) (hwd : (S.map Value.category).sum ≤ wdt)
    (hfr : rm.frames + 1 ≤ R.frames) (hlo : wdt + (maxL + 11) + rm.locals ≤ R.locals) (hc : cells + rm.cells ≤ R.cells) (hs : slots + rm.slots ≤ R.slots)
    (h : ∀ v H', P v H' → Go C nx L (v.toList ++ S) H' (cells + rm.cells) (slots + rm.slots)) : Go C pc L S' H cells slots := by
  intro T locs X N RR
  obtain ⟨hd, rfl⟩ := hd
  subst hS
  have E : Exa Z T.heap (b + i) Cn := (show CellOk Z a0 b T.heap (b + i) (ob Cn fs) from RR.2 i _ hH).1
  obtain ⟨cB, kB, q1, q2, q3⟩ := isOf (T := T) C.warm rfl E
  obtain ⟨_, _, ⟨T', L', k', n'⟩, -, X', ⟨Lc, hQ, l', y1, z1⟩, st⟩ := X.virtualBack C.exec (y := y') (z := y') C.own (mvT C.warm (C.hw _ w1)) (mvT C.warm (C.hw _ w2)) (notFace_of_selects (args := #[]) (mvT C.warm (C.hw _ w3))) (mvT C.warm (C.hw _ w3)) (mvT C.warm (C.hw _ w4)) hy
    (backOf (W := wdt) (M T.heap RR []) C.warm (C.hw _ w5) (C.hw _ w6) hfr hlo) q1 q3 (g := frm b m pc L (as.reverse ++ .ref i :: S)) rfl (by simp [C.ml, hL]) (Steps.refl _) (argsL := as.map (upV b)) (rest := S.map (upV b)) (lenOf hdesc (by simp [hlen])) (by simp [upV]) (wid_up wdt hwd) (hb C.bys hd) (fun _ _ => ⟨by simp [upV], rfl, hc, hs⟩)
  dsimp only [Pt.U, Pt.locs, Pt.cells, Pt.slots] at X' l' y1 z1 st hQ
  subst l' y1 z1
  obtain ⟨N2, v', H', rfl, RR', hP⟩ := hQ
  refine (h v' H' hP T' _ X' (Fr.app N N2) RR').back fun t k => st.trans ?_
  rw [app_up]
  exact k
theorem go_special {y' : MethodName} {bytes' : ByteArray} {maxL : Nat} {rm : Room} {as : List Value} {i idx : Nat} {P : Option Value → List GCell → Prop} {ps : List FieldType} {rt : Option FieldType} (hn : y'.name = "<init>")
    (hd : Dc bytes pc (.invokespecial idx) 3 nx) (w1 : Jvm.Cond.methodLink y.cls idx y' ∈ W) (w4 : Jvm.Cond.instanceMethod y' ∈ W) (w5 : Jvm.Cond.code y' bytes' maxL none ∈ W) (w6 : Jvm.Cond.initialized y'.cls ∈ W)
    (hy : y'.cls ≠ "java/lang/invoke/MethodHandle" ∧ y'.cls ≠ "java/lang/invoke/VarHandle") (hdesc : parseMethodDescriptor y'.desc = some ⟨ps, rt⟩) (hlen : as.length = ps.length)
    (M : Met l Z a0 b y' bytes' maxL none rm (.ref i :: as) H P) (hS : S' = as.reverse ++ .ref i :: S) (hL : L.length = nL) (wdt : Nat) (hwd : (S.map Value.category).sum ≤ wdt)
    (hfr : rm.frames + 1 ≤ R.frames) (hlo : wdt + (maxL + 11) + rm.locals ≤ R.locals) (hc : cells + rm.cells ≤ R.cells) (hs : slots + rm.slots ≤ R.slots)
    (h : ∀ v H', P v H' → Go C nx L (v.toList ++ S) H' (cells + rm.cells) (slots + rm.slots)) : Go C pc L S' H cells slots := by
  intro T locs X N RR
  obtain ⟨hd, rfl⟩ := hd
  subst hS
  obtain ⟨_, _, ⟨T', L', k', n'⟩, -, X', ⟨Lc, hQ, l', y1, z1⟩, st⟩ := X.specialBack C.exec (y := y') hn C.own (mvT C.warm (C.hw _ w1)) (mvT C.warm (C.hw _ w4)) (mvT C.warm (C.hw _ w5)) hy
    (backOf (W := wdt) (M T.heap RR []) C.warm (C.hw _ w5) (C.hw _ w6) hfr hlo) (g := frm b m pc L (as.reverse ++ .ref i :: S)) rfl (by simp [C.ml, hL]) (Steps.refl _) (a := b + i) (argsL := as.map (upV b)) (rest := S.map (upV b)) (lenOf hdesc (by simp [hlen])) (by simp [upV]) (wid_up wdt hwd) (hb C.bys hd) (fun _ _ => ⟨by simp [upV], rfl, hc, hs⟩)
  dsimp only [Pt.U, Pt.locs, Pt.cells, Pt.slots] at X' l' y1 z1 st hQ
  subst l' y1 z1
  obtain ⟨N2, v', H', rfl, RR', hP⟩ := hQ
  refine (h v' H' hP T' _ X' (Fr.app N N2) RR').back fun t k => st.trans ?_
  rw [app_up]
  exact k
theorem go_static {y' : MethodName} {bytes' : ByteArray} {maxL : Nat} {ret' : Option FieldType} {rm : Room} {as : List Value} {idx : Nat} {P : Option Value → List GCell → Prop} {ps : List FieldType} {rt : Option FieldType}
    (hd : Dc bytes pc (.invokestatic idx) 3 nx) (w1 : Jvm.Cond.methodLink y.cls idx y' ∈ W) (w2 : Jvm.Cond.static y' ∈ W) (w5 : Jvm.Cond.code y' bytes' maxL ret' ∈ W) (w6 : Jvm.Cond.initialized y'.cls ∈ W)
    (hy : y'.cls ≠ "java/lang/invoke/MethodHandle" ∧ y'.cls ≠ "java/lang/invoke/VarHandle") (hdesc : parseMethodDescriptor y'.desc = some ⟨ps, rt⟩) (hlen : as.length = ps.length)
    (M : Met l Z a0 b y' bytes' maxL ret' rm as H P) (hS : S' = as.reverse ++ S) (hL : L.length = nL) (wdt : Nat) (hwd : (S.map Value.category).sum ≤ wdt)
    (hfr : rm.frames + 1 ≤ R.frames) (hlo : wdt + (maxL + 11) + rm.locals ≤ R.locals) (hc : cells + rm.cells ≤ R.cells) (hs : slots + rm.slots ≤ R.slots)
    (h : ∀ v H', P v H' → Go C nx L (v.toList ++ S) H' (cells + rm.cells) (slots + rm.slots)) : Go C pc L S' H cells slots := by
  intro T locs X N RR
  obtain ⟨hd, rfl⟩ := hd
  subst hS
  obtain ⟨_, _, ⟨T', L', k', n'⟩, -, X', ⟨Lc, hQ, l', y1, z1⟩, st⟩ := Jvm.LawKit.callS X C.exec (y := y') C.own (mvT C.warm (C.hw _ w1)) (mvT C.warm (C.hw _ w2)) (mvT C.warm (C.hw _ w6)) (mvT C.warm (C.hw _ w5)) hy
    (backOf (W := wdt) (M T.heap RR []) C.warm (C.hw _ w5) (C.hw _ w6) hfr hlo) (g := frm b m pc L (as.reverse ++ S)) rfl (by simp [C.ml, hL]) (argsL := as.map (upV b)) (rest := S.map (upV b)) (lenOf hdesc (by simp [hlen])) (by simp) (wid_up wdt hwd) (hb C.bys hd) (fun _ _ => ⟨by simp, rfl, hc, hs⟩)
  dsimp only [Pt.U, Pt.locs, Pt.cells, Pt.slots] at X' l' y1 z1 st hQ
  subst l' y1 z1
  obtain ⟨N2, v', H', rfl, RR', hP⟩ := hQ
  refine (h v' H' hP T' _ X' (Fr.app N N2) RR').back fun t k => st _ ?_
  rw [app_up]
  exact k
/-! ### the end -/
theorem go_ret {w w' : Value} {t : FieldType} {i : Instr} (hd : Dc bytes pc i 1 nx) (hret : ret = some t) (hn : narrow t (upV b w) = upV b w)
    (hi : (i = .ireturn ∧ (t = .int ∨ t = .boolean ∨ t = .byte ∨ t = .char ∨ t = .short) ∧ ∃ z, w = .int z) ∨ (i = .lreturn ∧ t = .long ∧ ∃ z, w = .long z) ∨ (i = .areturn ∧ t.isReference = true ∧ w.isRef = true))
    (hc : cells ≤ R.cells) (hs : slots ≤ R.slots) (h : Post (some w) H) : Go C pc L (w :: S) H cells slots := by
  intro T locs X N RR
  obtain ⟨fs, hr, hrun, hended, hW, hsame⟩ := X.leave (v := some (upV b w)) (fun q => by rw [C.rets, hret] at q; cases q) C.nolock
  refine ⟨_, _, retOut X C.exec (t := t) (i := i) (C.rets.trans hret) hn ?_ (hb C.bys hd.1) hr, hrun, hended, _, locs, rfl, ⟨N, some w, H, rfl, RR, h⟩, ⟨_, rfl⟩, hW, hsame.mono hc hs⟩
  rcases hi with ⟨h1, h2, z, rfl⟩ | ⟨h1, h2, z, rfl⟩ | ⟨h1, h2, h3⟩
  · exact Or.inl ⟨h1, h2, z, rfl⟩
  · exact Or.inr (Or.inl ⟨h1, h2, z, rfl⟩)
  · exact Or.inr (Or.inr (Or.inr (Or.inr ⟨h1, h2, (isRef_up b w).trans h3⟩)))
theorem go_ireturn {x : Int32} (hd : Dc bytes pc .ireturn 1 nx) (hret : ret = some .int) (hc : cells ≤ R.cells) (hs : slots ≤ R.slots) (h : Post (some (.int x)) H) : Go C pc L (.int x :: S) H cells slots :=
  go_ret (w' := .null) hd hret rfl (Or.inl ⟨rfl, Or.inl rfl, _, rfl⟩) hc hs h
theorem go_zreturn {x : Int32} (hd : Dc bytes pc .ireturn 1 nx) (hret : ret = some .boolean) (hz : x &&& 1 = x) (hc : cells ≤ R.cells) (hs : slots ≤ R.slots) (h : Post (some (.int x)) H) : Go C pc L (.int x :: S) H cells slots :=
  go_ret (w' := .null) hd hret (by show Value.int (x &&& 1) = .int x; rw [hz]) (Or.inl ⟨rfl, Or.inr (Or.inl rfl), _, rfl⟩) hc hs h
theorem go_breturn {x : Int32} (hd : Dc bytes pc .ireturn 1 nx) (hret : ret = some .byte) (hz : x.toInt8.toInt32 = x) (hc : cells ≤ R.cells) (hs : slots ≤ R.slots) (h : Post (some (.int x)) H) : Go C pc L (.int x :: S) H cells slots :=
  go_ret (w' := .null) hd hret (by show Value.int (x.toInt8.toInt32) = .int x; rw [hz]) (Or.inl ⟨rfl, Or.inr (Or.inr (Or.inl rfl)), _, rfl⟩) hc hs h
theorem go_lreturn {x : Int64} (hd : Dc bytes pc .lreturn 1 nx) (hret : ret = some .long) (hc : cells ≤ R.cells) (hs : slots ≤ R.slots) (h : Post (some (.long x)) H) : Go C pc L (.long x :: S) H cells slots :=
  go_ret (w' := .null) hd hret rfl (Or.inr (Or.inl ⟨rfl, rfl, _, rfl⟩)) hc hs h
theorem narrow_ref {t : FieldType} (ht : t.isReference = true) (v : Value) : narrow t v = v := by cases t <;> first | rfl | cases ht
theorem go_areturn {v : Value} {t : FieldType} (hd : Dc bytes pc .areturn 1 nx) (hret : ret = some t) (ht : t.isReference = true) (hv : v.isRef = true) (hc : cells ≤ R.cells) (hs : slots ≤ R.slots) (h : Post (some v) H) : Go C pc L (v :: S) H cells slots :=
  go_ret (w' := .null) hd hret (narrow_ref ht _) (Or.inr (Or.inr ⟨rfl, ht, hv⟩)) hc hs h
theorem go_return (hd : Dc bytes pc .return_ 1 nx) (hret : ret = none) (hc : cells ≤ R.cells) (hs : slots ≤ R.slots) (h : Post none H) : Go C pc L [] H cells slots := by
  intro T locs X N RR
  obtain ⟨fs, hr, hrun, hended, hW, hsame⟩ := X.leave (v := none) (fun _ => rfl) C.nolock
  exact ⟨_, _, X.returnOut C.exec (C.rets.trans hret) (hb C.bys hd.1) hr, hrun, hended, _, locs, rfl, ⟨N, none, H, rfl, RR, h⟩, ⟨_, rfl⟩, hW, hsame.mono hc hs⟩
def fillL : List Value → List Slot
  | [] => []
  | v :: vs => if v.category = 2 then .val v :: .second :: fillL vs else .val v :: fillL vs
def locs0 (as : List Value) (nL : Nat) : List Slot := fillL as ++ List.replicate (nL - (fillL as).length) .unset
theorem fill_foldl (as : List Value) : ∀ acc : Array Slot, (as.map (upV b)).foldl (fun acc v => if v.category = 2 then (acc.push (.val v)).push .second else acc.push (.val v)) acc = acc ++ ((fillL as).map (upS b)).toArray := by
  induction as with
  | nil => intro acc; simp [fillL]
  | cons v vs ih =>
    intro acc
    simp only [List.map_cons, List.foldl_cons, cat_up, fillL]
    by_cases q : v.category = 2
    · rw [if_pos q, if_pos q, ih]
      simp [upS, ← Array.toList_inj]
    · rw [if_neg q, if_neg q, ih]
      simp [upS, ← Array.toList_inj]
theorem entry_up (m : MethodId) (as : List Value) (nL : Nat) : entryFrame m (as.map (upV b)).toArray nL = frm b m 0 (locs0 as nL) [] := by
  have e := fill_foldl (b := b) as #[]
  have e1 : argsToLocals (as.map (upV b)).toArray nL = ((locs0 as nL).map (upS b)).toArray := by
    simp only [argsToLocals, List.foldl_toArray', List.size_toArray, List.foldl_toArray]
    rw [e]
    simp [locs0, upS, ← Array.toList_inj]
  simp [entryFrame, e1]
end Walk
theorem Met.of_go {l : Launch} {Z : State} {a0 : Array Value} {W : List Jvm.Cond} {b : Nat} {y : MethodName} {bytes : ByteArray} {nL : Nat} {ret : Option FieldType} {rm : Room} {as : List Value} {H : List GCell} {Post : Option Value → List GCell → Prop} (hw : ∀ d ∈ W, d.before a0 Z = true) (hp : plainFor y = true) {L0 : List Slot} (hL : locs0 as nL = L0)
    (body : ∀ p e s m args below meth c (C : Cx p l e rm s m args below meth c Z a0 W b y bytes nL ret Post), Go C 0 L0 [] H 0 0) : Met l Z a0 b y bytes nL ret rm as H Post := by
  intro h RR ws
  refine MetFree.of_bodySF hp hisR ?_
  intro p e s m args below meth c s₁ Bd hml0 hP hK
  obtain ⟨rfl, hZ, hh⟩ := hP
  have C : Cx p l e rm s m (as.map (upV b)).toArray below meth c Z a0 W b y bytes nL ret Post := ⟨Bd.exec, hZ, findClass_of_methodNamed Bd.named, Bd.bytes, hml0, Bd.returns, Bd.notSynchronized, (name_of_methodNamed Bd.named Bd.method).1, hw⟩
  have X0 : Stand p l e rm s m (as.map (upV b)).toArray below meth c s₁ [] 0 0 := Stand.of_body Bd
  have e0 : s₁.heap = h := by rw [← hh, Bd.state]; rfl
  have g := body p e s m _ below meth c C s₁ [] X0 (Fr.nil b) (by rw [e0]; exact RR)
  obtain ⟨s₂, o, hs, hr⟩ := g
  refine ⟨s₂, o, ?_, hr⟩
  rw [entry_up, hL]
  exact hs
section Places
variable {p : Program} {l : Launch} {e : Env} {R : Room} {s : State} {m : MethodId} {args : Array Value} {below : List Frame} {meth : Method} {c : Code} {Z : State} {a0 : Array Value} {W : List Jvm.Cond} {b : Nat} {y : MethodName} {bytes : ByteArray} {nL : Nat} {ret : Option FieldType} {Post : Option Value → List GCell → Prop} {C : Cx p l e R s m args below meth c Z a0 W b y bytes nL ret Post} {pc nx tg : Nat} {L L' : List Slot} {S S' : List Value} {H H' : List GCell} {cells slots : Nat}
theorem go_istore_1 {s0 o : Slot} {x : Int32} (hd : Dc bytes pc (.istore_n 1) 1 nx) (ho : oneS o = true) (h : Go C nx (s0 :: .val (.int x) :: L) S H cells slots) : Go C pc (s0 :: o :: L) (.int x :: S) H cells slots := go_istoreN hd rfl ho h
theorem go_astore_2 {s0 s1 o : Slot} {v : Value} (hd : Dc bytes pc (.astore_n 2) 1 nx) (ho : oneS o = true) (hv : v.isRef = true) (h : Go C nx (s0 :: s1 :: .val v :: L) S H cells slots) : Go C pc (s0 :: s1 :: o :: L) (v :: S) H cells slots := go_astoreN hd rfl ho hv h
theorem go_istore_3 {s0 s1 s2 o : Slot} {x : Int32} (hd : Dc bytes pc (.istore_n 3) 1 nx) (ho : oneS o = true) (h : Go C nx (s0 :: s1 :: s2 :: .val (.int x) :: L) S H cells slots) : Go C pc (s0 :: s1 :: s2 :: o :: L) (.int x :: S) H cells slots := go_istoreN hd rfl ho h
theorem go_istoreX_3 {s0 s1 s2 o : Slot} {x : Int32} (hd : Dc bytes pc (.istore_n 3) 1 nx) (ho : oneS o = true) (h : ∀ x', x' = x → Go C nx (s0 :: s1 :: s2 :: .val (.int x') :: L) S H cells slots) : Go C pc (s0 :: s1 :: s2 :: o :: L) (.int x :: S) H cells slots := go_istoreN hd rfl ho (h x rfl)
theorem go_iinc_3 {s0 s1 s2 : Slot} {x z : Int32} {i : Int} (hd : Dc bytes pc (.iinc 3 i) 3 nx) (hz : Int32.ofInt i = z) (h : Go C nx (s0 :: s1 :: s2 :: .val (.int (x + z)) :: L) S H cells slots) : Go C pc (s0 :: s1 :: s2 :: .val (.int x) :: L) S H cells slots := go_iinc hd rfl hz h
theorem go_istore_4 {s0 s1 s2 s3 o : Slot} {x : Int32} (hd : Dc bytes pc (.istore 4) 2 nx) (ho : oneS o = true) (h : Go C nx (s0 :: s1 :: s2 :: s3 :: .val (.int x) :: L) S H cells slots) : Go C pc (s0 :: s1 :: s2 :: s3 :: o :: L) (.int x :: S) H cells slots := go_istore hd rfl ho h
theorem go_astore_4 {s0 s1 s2 s3 o : Slot} {v : Value} (hd : Dc bytes pc (.astore 4) 2 nx) (ho : oneS o = true) (hv : v.isRef = true) (h : Go C nx (s0 :: s1 :: s2 :: s3 :: .val v :: L) S H cells slots) : Go C pc (s0 :: s1 :: s2 :: s3 :: o :: L) (v :: S) H cells slots := go_astore hd rfl ho hv h
theorem go_iinc_4 {s0 s1 s2 s3 : Slot} {x z : Int32} {i : Int} (hd : Dc bytes pc (.iinc 4 i) 3 nx) (hz : Int32.ofInt i = z) (h : Go C nx (s0 :: s1 :: s2 :: s3 :: .val (.int (x + z)) :: L) S H cells slots) : Go C pc (s0 :: s1 :: s2 :: s3 :: .val (.int x) :: L) S H cells slots := go_iinc hd rfl hz h
theorem go_astore_5 {s0 s1 s2 s3 s4 o : Slot} {v : Value} (hd : Dc bytes pc (.astore 5) 2 nx) (ho : oneS o = true) (hv : v.isRef = true) (h : Go C nx (s0 :: s1 :: s2 :: s3 :: s4 :: .val v :: L) S H cells slots) : Go C pc (s0 :: s1 :: s2 :: s3 :: s4 :: o :: L) (v :: S) H cells slots := go_astore hd rfl ho hv h
theorem go_istore_6 {s0 s1 s2 s3 s4 s5 o : Slot} {x : Int32} (hd : Dc bytes pc (.istore 6) 2 nx) (ho : oneS o = true) (h : Go C nx (s0 :: s1 :: s2 :: s3 :: s4 :: s5 :: .val (.int x) :: L) S H cells slots) : Go C pc (s0 :: s1 :: s2 :: s3 :: s4 :: s5 :: o :: L) (.int x :: S) H cells slots := go_istore hd rfl ho h
theorem go_iinc_6 {s0 s1 s2 s3 s4 s5 : Slot} {x z : Int32} {i : Int} (hd : Dc bytes pc (.iinc 6 i) 3 nx) (hz : Int32.ofInt i = z) (h : Go C nx (s0 :: s1 :: s2 :: s3 :: s4 :: s5 :: .val (.int (x + z)) :: L) S H cells slots) : Go C pc (s0 :: s1 :: s2 :: s3 :: s4 :: s5 :: .val (.int x) :: L) S H cells slots := go_iinc hd rfl hz h
theorem go_astore_7 {s0 s1 s2 s3 s4 s5 s6 o : Slot} {v : Value} (hd : Dc bytes pc (.astore 7) 2 nx) (ho : oneS o = true) (hv : v.isRef = true) (h : Go C nx (s0 :: s1 :: s2 :: s3 :: s4 :: s5 :: s6 :: .val v :: L) S H cells slots) : Go C pc (s0 :: s1 :: s2 :: s3 :: s4 :: s5 :: s6 :: o :: L) (v :: S) H cells slots := go_astore hd rfl ho hv h
theorem go_istore_8 {s0 s1 s2 s3 s4 s5 s6 s7 o : Slot} {x : Int32} (hd : Dc bytes pc (.istore 8) 2 nx) (ho : oneS o = true) (h : Go C nx (s0 :: s1 :: s2 :: s3 :: s4 :: s5 :: s6 :: s7 :: .val (.int x) :: L) S H cells slots) : Go C pc (s0 :: s1 :: s2 :: s3 :: s4 :: s5 :: s6 :: s7 :: o :: L) (.int x :: S) H cells slots := go_istore hd rfl ho h
theorem go_virtual_0 {y' : MethodName} {bytes' : ByteArray} {maxL : Nat} {ret' : Option FieldType} {rm : Room} {i idx : Nat} {Cn : String} {fs : List (String × String × Value)} {P : Value → List GCell → Prop} {ps : List FieldType} {rt : Option FieldType} (hd : Dc bytes pc (.invokevirtual idx) 3 nx) (w1 : Jvm.Cond.methodLink y.cls idx y' ∈ W) (w2 : Jvm.Cond.declares y' ∈ W) (w3 : Jvm.Cond.selects Cn y' y' ∈ W) (w4 : Jvm.Cond.instanceMethod y' ∈ W) (w5 : Jvm.Cond.code y' bytes' maxL ret' ∈ W) (w6 : Jvm.Cond.initialized y'.cls ∈ W) (hy : y'.cls ≠ "java/lang/invoke/MethodHandle" ∧ y'.cls ≠ "java/lang/invoke/VarHandle") (hdesc : parseMethodDescriptor y'.desc = some ⟨ps, rt⟩) (hlen : ps.length = 0)
    (M : Met l Z a0 b y' bytes' maxL ret' rm (.ref i :: []) H (fun v H' => ∃ w, v = some w ∧ P w H')) (hH : H[i]? = some (ob Cn fs)) (hL : L.length = nL) (wdt : Nat) (hwd : (S.map Value.category).sum = wdt) (hfr : rm.frames + 1 ≤ R.frames) (hlo : wdt + (maxL + 11) + rm.locals ≤ R.locals) (hc : cells + rm.cells ≤ R.cells) (hs : slots + rm.slots ≤ R.slots)
    (h : ∀ w H', P w H' → Go C nx L (w :: S) H' (cells + rm.cells) (slots + rm.slots)) : Go C pc L (.ref i :: S) H cells slots :=
  go_virtual hd w1 w2 w3 w4 w5 w6 hy hdesc (as := []) (by rw [hlen]; rfl) M hH rfl hL wdt (Nat.le_of_eq hwd) hfr hlo hc hs (fun v H' q => by obtain ⟨w, rfl, q⟩ := q; exact h w H' q)
theorem go_virtual_1 {a1 : Value} {y' : MethodName} {bytes' : ByteArray} {maxL : Nat} {ret' : Option FieldType} {rm : Room} {i idx : Nat} {Cn : String} {fs : List (String × String × Value)} {P : Value → List GCell → Prop} {ps : List FieldType} {rt : Option FieldType} (hd : Dc bytes pc (.invokevirtual idx) 3 nx) (w1 : Jvm.Cond.methodLink y.cls idx y' ∈ W) (w2 : Jvm.Cond.declares y' ∈ W) (w3 : Jvm.Cond.selects Cn y' y' ∈ W) (w4 : Jvm.Cond.instanceMethod y' ∈ W) (w5 : Jvm.Cond.code y' bytes' maxL ret' ∈ W) (w6 : Jvm.Cond.initialized y'.cls ∈ W) (hy : y'.cls ≠ "java/lang/invoke/MethodHandle" ∧ y'.cls ≠ "java/lang/invoke/VarHandle") (hdesc : parseMethodDescriptor y'.desc = some ⟨ps, rt⟩) (hlen : ps.length = 1)
    (M : Met l Z a0 b y' bytes' maxL ret' rm (.ref i :: [a1]) H (fun v H' => ∃ w, v = some w ∧ P w H')) (hH : H[i]? = some (ob Cn fs)) (hL : L.length = nL) (wdt : Nat) (hwd : (S.map Value.category).sum = wdt) (hfr : rm.frames + 1 ≤ R.frames) (hlo : wdt + (maxL + 11) + rm.locals ≤ R.locals) (hc : cells + rm.cells ≤ R.cells) (hs : slots + rm.slots ≤ R.slots)
    (h : ∀ w H', P w H' → Go C nx L (w :: S) H' (cells + rm.cells) (slots + rm.slots)) : Go C pc L (a1 :: .ref i :: S) H cells slots :=
  go_virtual hd w1 w2 w3 w4 w5 w6 hy hdesc (as := [a1]) (by rw [hlen]; rfl) M hH rfl hL wdt (Nat.le_of_eq hwd) hfr hlo hc hs (fun v H' q => by obtain ⟨w, rfl, q⟩ := q; exact h w H' q)
theorem go_static_1 {a1 : Value} {y' : MethodName} {bytes' : ByteArray} {maxL : Nat} {ret' : Option FieldType} {rm : Room} {idx : Nat} {P : Value → List GCell → Prop} {ps : List FieldType} {rt : Option FieldType} (hd : Dc bytes pc (.invokestatic idx) 3 nx) (w1 : Jvm.Cond.methodLink y.cls idx y' ∈ W) (w2 : Jvm.Cond.static y' ∈ W) (w5 : Jvm.Cond.code y' bytes' maxL ret' ∈ W) (w6 : Jvm.Cond.initialized y'.cls ∈ W) (hy : y'.cls ≠ "java/lang/invoke/MethodHandle" ∧ y'.cls ≠ "java/lang/invoke/VarHandle") (hdesc : parseMethodDescriptor y'.desc = some ⟨ps, rt⟩) (hlen : ps.length = 1)
    (M : Met l Z a0 b y' bytes' maxL ret' rm [a1] H (fun v H' => ∃ w, v = some w ∧ P w H')) (hL : L.length = nL) (wdt : Nat) (hwd : (S.map Value.category).sum = wdt) (hfr : rm.frames + 1 ≤ R.frames) (hlo : wdt + (maxL + 11) + rm.locals ≤ R.locals) (hc : cells + rm.cells ≤ R.cells) (hs : slots + rm.slots ≤ R.slots)
    (h : ∀ w H', P w H' → Go C nx L (w :: S) H' (cells + rm.cells) (slots + rm.slots)) : Go C pc L (a1 :: S) H cells slots :=
  go_static hd w1 w2 w5 w6 hy hdesc (as := [a1]) (by rw [hlen]; rfl) M rfl hL wdt (Nat.le_of_eq hwd) hfr hlo hc hs (fun v H' q => by obtain ⟨w, rfl, q⟩ := q; exact h w H' q)
theorem go_specialV_2 {a1 a2 : Value} {y' : MethodName} {bytes' : ByteArray} {maxL : Nat} {rm : Room} {i idx : Nat} {P : List GCell → Prop} {ps : List FieldType} {rt : Option FieldType} (hn : y'.name = "<init>") (hd : Dc bytes pc (.invokespecial idx) 3 nx) (w1 : Jvm.Cond.methodLink y.cls idx y' ∈ W) (w4 : Jvm.Cond.instanceMethod y' ∈ W) (w5 : Jvm.Cond.code y' bytes' maxL none ∈ W) (w6 : Jvm.Cond.initialized y'.cls ∈ W) (hy : y'.cls ≠ "java/lang/invoke/MethodHandle" ∧ y'.cls ≠ "java/lang/invoke/VarHandle") (hdesc : parseMethodDescriptor y'.desc = some ⟨ps, rt⟩) (hlen : ps.length = 2)
    (M : Met l Z a0 b y' bytes' maxL none rm (.ref i :: [a1, a2]) H (fun v H' => v = none ∧ P H')) (hL : L.length = nL) (wdt : Nat) (hwd : (S.map Value.category).sum = wdt) (hfr : rm.frames + 1 ≤ R.frames) (hlo : wdt + (maxL + 11) + rm.locals ≤ R.locals) (hc : cells + rm.cells ≤ R.cells) (hs : slots + rm.slots ≤ R.slots)
    (h : ∀ H', P H' → Go C nx L S H' (cells + rm.cells) (slots + rm.slots)) : Go C pc L (a2 :: a1 :: .ref i :: S) H cells slots :=
  go_special hn hd w1 w4 w5 w6 hy hdesc (as := [a1, a2]) (by rw [hlen]; rfl) M rfl hL wdt (Nat.le_of_eq hwd) hfr hlo hc hs (fun v H' q => by obtain ⟨rfl, q⟩ := q; exact h H' q)
theorem go_static_3 {a1 a2 a3 : Value} {y' : MethodName} {bytes' : ByteArray} {maxL : Nat} {ret' : Option FieldType} {rm : Room} {idx : Nat} {P : Value → List GCell → Prop} {ps : List FieldType} {rt : Option FieldType} (hd : Dc bytes pc (.invokestatic idx) 3 nx) (w1 : Jvm.Cond.methodLink y.cls idx y' ∈ W) (w2 : Jvm.Cond.static y' ∈ W) (w5 : Jvm.Cond.code y' bytes' maxL ret' ∈ W) (w6 : Jvm.Cond.initialized y'.cls ∈ W) (hy : y'.cls ≠ "java/lang/invoke/MethodHandle" ∧ y'.cls ≠ "java/lang/invoke/VarHandle") (hdesc : parseMethodDescriptor y'.desc = some ⟨ps, rt⟩) (hlen : ps.length = 3)
    (M : Met l Z a0 b y' bytes' maxL ret' rm [a1, a2, a3] H (fun v H' => ∃ w, v = some w ∧ P w H')) (hL : L.length = nL) (wdt : Nat) (hwd : (S.map Value.category).sum = wdt) (hfr : rm.frames + 1 ≤ R.frames) (hlo : wdt + (maxL + 11) + rm.locals ≤ R.locals) (hc : cells + rm.cells ≤ R.cells) (hs : slots + rm.slots ≤ R.slots)
    (h : ∀ w H', P w H' → Go C nx L (w :: S) H' (cells + rm.cells) (slots + rm.slots)) : Go C pc L (a3 :: a2 :: a1 :: S) H cells slots :=
  go_static hd w1 w2 w5 w6 hy hdesc (as := [a1, a2, a3]) (by rw [hlen]; rfl) M rfl hL wdt (Nat.le_of_eq hwd) hfr hlo hc hs (fun v H' q => by obtain ⟨w, rfl, q⟩ := q; exact h w H' q)
end Places
end Jvm.GoKit

namespace Jvm.Pilot.@@N@@
open Jvm Jvm.ClassFile Sem Op Lib Jvm.Free Jvm.Stand Jvm.LawKit Jvm.RoadKit Bundle Jvm.GoKit Jvm.Pilot.@@N@@.Jvm.D
theorem e0_0 : Dc code 0 (.iload_n 0) 1 1 := ⟨at_0, rfl⟩
theorem e0_1 : Dc code 1 (.ldc 7) 2 3 := ⟨at_1, rfl⟩
theorem e0_3 : Dc code 3 (.iand) 1 4 := ⟨at_3, rfl⟩
theorem e0_4 : Dc code 4 (.iconst 5) 1 5 := ⟨at_4, rfl⟩
theorem e0_5 : Dc code 5 (.irem) 1 6 := ⟨at_5, rfl⟩
theorem e0_6 : Dc code 6 (.istore_n 3) 1 7 := ⟨at_6, rfl⟩
theorem e0_7 : Dc code 7 (.iload_n 3) 1 8 := ⟨at_7, rfl⟩
theorem e0_8 : Dc code 8 (.newarray .byte) 2 10 := ⟨at_8, rfl⟩
theorem e0_10 : Dc code 10 (.astore 4) 2 12 := ⟨at_10, rfl⟩
theorem e0_12 : Dc code 12 (.iload_n 3) 1 13 := ⟨at_12, rfl⟩
theorem e0_13 : Dc code 13 (.ifCond .le 13) 3 16 := ⟨at_13, rfl⟩
theorem e0_16 : Dc code 16 (.aload 4) 2 18 := ⟨at_16, rfl⟩
theorem e0_18 : Dc code 18 (.iconst 0) 1 19 := ⟨at_18, rfl⟩
theorem e0_19 : Dc code 19 (.iload_n 1) 1 20 := ⟨at_19, rfl⟩
theorem e0_20 : Dc code 20 (.iload_n 2) 1 21 := ⟨at_20, rfl⟩
theorem e0_21 : Dc code 21 (.iconst 0) 1 22 := ⟨at_21, rfl⟩
theorem e0_22 : Dc code 22 (.invokestatic 8) 3 25 := ⟨at_22, rfl⟩
theorem e0_25 : Dc code 25 (.bastore) 1 26 := ⟨at_25, rfl⟩
theorem e0_26 : Dc code 26 (.iload_n 3) 1 27 := ⟨at_26, rfl⟩
theorem e0_27 : Dc code 27 (.iconst 1) 1 28 := ⟨at_27, rfl⟩
theorem e0_28 : Dc code 28 (.if_icmp .le 13) 3 31 := ⟨at_28, rfl⟩
theorem e0_31 : Dc code 31 (.aload 4) 2 33 := ⟨at_31, rfl⟩
theorem e0_33 : Dc code 33 (.iconst 1) 1 34 := ⟨at_33, rfl⟩
theorem e0_34 : Dc code 34 (.iload_n 1) 1 35 := ⟨at_34, rfl⟩
theorem e0_35 : Dc code 35 (.iload_n 2) 1 36 := ⟨at_35, rfl⟩
theorem e0_36 : Dc code 36 (.iconst 1) 1 37 := ⟨at_36, rfl⟩
theorem e0_37 : Dc code 37 (.invokestatic 8) 3 40 := ⟨at_37, rfl⟩
theorem e0_40 : Dc code 40 (.bastore) 1 41 := ⟨at_40, rfl⟩
theorem e0_41 : Dc code 41 (.iload_n 3) 1 42 := ⟨at_41, rfl⟩
theorem e0_42 : Dc code 42 (.iconst 2) 1 43 := ⟨at_42, rfl⟩
theorem e0_43 : Dc code 43 (.if_icmp .le 13) 3 46 := ⟨at_43, rfl⟩
theorem e0_46 : Dc code 46 (.aload 4) 2 48 := ⟨at_46, rfl⟩
theorem e0_48 : Dc code 48 (.iconst 2) 1 49 := ⟨at_48, rfl⟩
theorem e0_49 : Dc code 49 (.iload_n 1) 1 50 := ⟨at_49, rfl⟩
theorem e0_50 : Dc code 50 (.iload_n 2) 1 51 := ⟨at_50, rfl⟩
theorem e0_51 : Dc code 51 (.iconst 2) 1 52 := ⟨at_51, rfl⟩
theorem e0_52 : Dc code 52 (.invokestatic 8) 3 55 := ⟨at_52, rfl⟩
theorem e0_55 : Dc code 55 (.bastore) 1 56 := ⟨at_55, rfl⟩
theorem e0_56 : Dc code 56 (.iload_n 3) 1 57 := ⟨at_56, rfl⟩
theorem e0_57 : Dc code 57 (.iconst 3) 1 58 := ⟨at_57, rfl⟩
theorem e0_58 : Dc code 58 (.if_icmp .le 13) 3 61 := ⟨at_58, rfl⟩
theorem e0_61 : Dc code 61 (.aload 4) 2 63 := ⟨at_61, rfl⟩
theorem e0_63 : Dc code 63 (.iconst 3) 1 64 := ⟨at_63, rfl⟩
theorem e0_64 : Dc code 64 (.iload_n 1) 1 65 := ⟨at_64, rfl⟩
theorem e0_65 : Dc code 65 (.iload_n 2) 1 66 := ⟨at_65, rfl⟩
theorem e0_66 : Dc code 66 (.iconst 3) 1 67 := ⟨at_66, rfl⟩
theorem e0_67 : Dc code 67 (.invokestatic 8) 3 70 := ⟨at_67, rfl⟩
theorem e0_70 : Dc code 70 (.bastore) 1 71 := ⟨at_70, rfl⟩
theorem e0_71 : Dc code 71 (.bipush 6) 2 73 := ⟨at_71, rfl⟩
theorem e0_73 : Dc code 73 (.newarray .int) 2 75 := ⟨at_73, rfl⟩
theorem e0_75 : Dc code 75 (.astore 5) 2 77 := ⟨at_75, rfl⟩
theorem e0_77 : Dc code 77 (.aload 5) 2 79 := ⟨at_77, rfl⟩
theorem e0_79 : Dc code 79 (.iconst 0) 1 80 := ⟨at_79, rfl⟩
theorem e0_80 : Dc code 80 (.iconst 0) 1 81 := ⟨at_80, rfl⟩
theorem e0_81 : Dc code 81 (.iastore) 1 82 := ⟨at_81, rfl⟩
theorem e0_82 : Dc code 82 (.iconst 1) 1 83 := ⟨at_82, rfl⟩
theorem e0_83 : Dc code 83 (.istore 6) 2 85 := ⟨at_83, rfl⟩
theorem e0_85 : Dc code 85 (.iload_n 3) 1 86 := ⟨at_85, rfl⟩
theorem e0_86 : Dc code 86 (.ifCond .le 21) 3 89 := ⟨at_86, rfl⟩
theorem e0_89 : Dc code 89 (.aload 4) 2 91 := ⟨at_89, rfl⟩
theorem e0_91 : Dc code 91 (.iconst 0) 1 92 := ⟨at_91, rfl⟩
theorem e0_92 : Dc code 92 (.baload) 1 93 := ⟨at_92, rfl⟩
theorem e0_93 : Dc code 93 (.bipush 10) 2 95 := ⟨at_93, rfl⟩
theorem e0_95 : Dc code 95 (.if_icmp .ne 12) 3 98 := ⟨at_95, rfl⟩
theorem e0_98 : Dc code 98 (.aload 5) 2 100 := ⟨at_98, rfl⟩
theorem e0_100 : Dc code 100 (.iload 6) 2 102 := ⟨at_100, rfl⟩
theorem e0_102 : Dc code 102 (.iconst 1) 1 103 := ⟨at_102, rfl⟩
theorem e0_103 : Dc code 103 (.iastore) 1 104 := ⟨at_103, rfl⟩
theorem e0_104 : Dc code 104 (.iinc 6 1) 3 107 := ⟨at_104, rfl⟩
theorem e0_107 : Dc code 107 (.iload_n 3) 1 108 := ⟨at_107, rfl⟩
theorem e0_108 : Dc code 108 (.iconst 1) 1 109 := ⟨at_108, rfl⟩
theorem e0_109 : Dc code 109 (.if_icmp .le 21) 3 112 := ⟨at_109, rfl⟩
theorem e0_112 : Dc code 112 (.aload 4) 2 114 := ⟨at_112, rfl⟩
theorem e0_114 : Dc code 114 (.iconst 1) 1 115 := ⟨at_114, rfl⟩
theorem e0_115 : Dc code 115 (.baload) 1 116 := ⟨at_115, rfl⟩
theorem e0_116 : Dc code 116 (.bipush 10) 2 118 := ⟨at_116, rfl⟩
theorem e0_118 : Dc code 118 (.if_icmp .ne 12) 3 121 := ⟨at_118, rfl⟩
theorem e0_121 : Dc code 121 (.aload 5) 2 123 := ⟨at_121, rfl⟩
theorem e0_123 : Dc code 123 (.iload 6) 2 125 := ⟨at_123, rfl⟩
theorem e0_125 : Dc code 125 (.iconst 2) 1 126 := ⟨at_125, rfl⟩
theorem e0_126 : Dc code 126 (.iastore) 1 127 := ⟨at_126, rfl⟩
theorem e0_127 : Dc code 127 (.iinc 6 1) 3 130 := ⟨at_127, rfl⟩
theorem e0_130 : Dc code 130 (.iload_n 3) 1 131 := ⟨at_130, rfl⟩
theorem e0_131 : Dc code 131 (.iconst 2) 1 132 := ⟨at_131, rfl⟩
theorem e0_132 : Dc code 132 (.if_icmp .le 21) 3 135 := ⟨at_132, rfl⟩
theorem e0_135 : Dc code 135 (.aload 4) 2 137 := ⟨at_135, rfl⟩
theorem e0_137 : Dc code 137 (.iconst 2) 1 138 := ⟨at_137, rfl⟩
theorem e0_138 : Dc code 138 (.baload) 1 139 := ⟨at_138, rfl⟩
theorem e0_139 : Dc code 139 (.bipush 10) 2 141 := ⟨at_139, rfl⟩
theorem e0_141 : Dc code 141 (.if_icmp .ne 12) 3 144 := ⟨at_141, rfl⟩
theorem e0_144 : Dc code 144 (.aload 5) 2 146 := ⟨at_144, rfl⟩
theorem e0_146 : Dc code 146 (.iload 6) 2 148 := ⟨at_146, rfl⟩
theorem e0_148 : Dc code 148 (.iconst 3) 1 149 := ⟨at_148, rfl⟩
theorem e0_149 : Dc code 149 (.iastore) 1 150 := ⟨at_149, rfl⟩
theorem e0_150 : Dc code 150 (.iinc 6 1) 3 153 := ⟨at_150, rfl⟩
theorem e0_153 : Dc code 153 (.iload_n 3) 1 154 := ⟨at_153, rfl⟩
theorem e0_154 : Dc code 154 (.iconst 3) 1 155 := ⟨at_154, rfl⟩
theorem e0_155 : Dc code 155 (.if_icmp .le 21) 3 158 := ⟨at_155, rfl⟩
theorem e0_158 : Dc code 158 (.aload 4) 2 160 := ⟨at_158, rfl⟩
theorem e0_160 : Dc code 160 (.iconst 3) 1 161 := ⟨at_160, rfl⟩
theorem e0_161 : Dc code 161 (.baload) 1 162 := ⟨at_161, rfl⟩
theorem e0_162 : Dc code 162 (.bipush 10) 2 164 := ⟨at_162, rfl⟩
theorem e0_164 : Dc code 164 (.if_icmp .ne 12) 3 167 := ⟨at_164, rfl⟩
theorem e0_167 : Dc code 167 (.aload 5) 2 169 := ⟨at_167, rfl⟩
theorem e0_169 : Dc code 169 (.iload 6) 2 171 := ⟨at_169, rfl⟩
theorem e0_171 : Dc code 171 (.iconst 4) 1 172 := ⟨at_171, rfl⟩
theorem e0_172 : Dc code 172 (.iastore) 1 173 := ⟨at_172, rfl⟩
theorem e0_173 : Dc code 173 (.iinc 6 1) 3 176 := ⟨at_173, rfl⟩
theorem e0_176 : Dc code 176 (.iload_n 3) 1 177 := ⟨at_176, rfl⟩
theorem e0_177 : Dc code 177 (.ifCond .le 23) 3 180 := ⟨at_177, rfl⟩
theorem e0_180 : Dc code 180 (.aload 4) 2 182 := ⟨at_180, rfl⟩
theorem e0_182 : Dc code 182 (.iload_n 3) 1 183 := ⟨at_182, rfl⟩
theorem e0_183 : Dc code 183 (.iconst 1) 1 184 := ⟨at_183, rfl⟩
theorem e0_184 : Dc code 184 (.isub) 1 185 := ⟨at_184, rfl⟩
theorem e0_185 : Dc code 185 (.baload) 1 186 := ⟨at_185, rfl⟩
theorem e0_186 : Dc code 186 (.bipush 10) 2 188 := ⟨at_186, rfl⟩
theorem e0_188 : Dc code 188 (.if_icmp .eq 12) 3 191 := ⟨at_188, rfl⟩
theorem e0_191 : Dc code 191 (.aload 5) 2 193 := ⟨at_191, rfl⟩
theorem e0_193 : Dc code 193 (.iload 6) 2 195 := ⟨at_193, rfl⟩
theorem e0_195 : Dc code 195 (.iload_n 3) 1 196 := ⟨at_195, rfl⟩
theorem e0_196 : Dc code 196 (.iastore) 1 197 := ⟨at_196, rfl⟩
theorem e0_197 : Dc code 197 (.iinc 6 1) 3 200 := ⟨at_197, rfl⟩
theorem e0_200 : Dc code 200 (.aload 4) 2 202 := ⟨at_200, rfl⟩
theorem e0_202 : Dc code 202 (.invokestatic 14) 3 205 := ⟨at_202, rfl⟩
theorem e0_205 : Dc code 205 (.astore 7) 2 207 := ⟨at_205, rfl⟩
theorem e0_207 : Dc code 207 (.aload 7) 2 209 := ⟨at_207, rfl⟩
theorem e0_209 : Dc code 209 (.invokevirtual 20) 3 212 := ⟨at_209, rfl⟩
theorem e0_212 : Dc code 212 (.aload 4) 2 214 := ⟨at_212, rfl⟩
theorem e0_214 : Dc code 214 (.if_acmp .eq 5) 3 217 := ⟨at_214, rfl⟩
theorem e0_219 : Dc code 219 (.aload 7) 2 221 := ⟨at_219, rfl⟩
theorem e0_221 : Dc code 221 (.invokevirtual 24) 3 224 := ⟨at_221, rfl⟩
theorem e0_224 : Dc code 224 (.iload 6) 2 226 := ⟨at_224, rfl⟩
theorem e0_226 : Dc code 226 (.iconst 1) 1 227 := ⟨at_226, rfl⟩
theorem e0_227 : Dc code 227 (.isub) 1 228 := ⟨at_227, rfl⟩
theorem e0_228 : Dc code 228 (.if_icmp .eq 5) 3 231 := ⟨at_228, rfl⟩
theorem e0_233 : Dc code 233 (.iconst 1) 1 234 := ⟨at_233, rfl⟩
theorem e0_234 : Dc code 234 (.istore 8) 2 236 := ⟨at_234, rfl⟩
theorem e0_236 : Dc code 236 (.iconst 0) 1 237 := ⟨at_236, rfl⟩
theorem e0_237 : Dc code 237 (.iload 6) 2 239 := ⟨at_237, rfl⟩
theorem e0_239 : Dc code 239 (.if_icmp .ge 28) 3 242 := ⟨at_239, rfl⟩
theorem e0_242 : Dc code 242 (.iload 8) 2 244 := ⟨at_242, rfl⟩
theorem e0_244 : Dc code 244 (.ifCond .eq 20) 3 247 := ⟨at_244, rfl⟩
theorem e0_247 : Dc code 247 (.aload 7) 2 249 := ⟨at_247, rfl⟩
theorem e0_249 : Dc code 249 (.iconst 0) 1 250 := ⟨at_249, rfl⟩
theorem e0_250 : Dc code 250 (.invokevirtual 28) 3 253 := ⟨at_250, rfl⟩
theorem e0_253 : Dc code 253 (.aload 5) 2 255 := ⟨at_253, rfl⟩
theorem e0_255 : Dc code 255 (.iconst 0) 1 256 := ⟨at_255, rfl⟩
theorem e0_256 : Dc code 256 (.iaload) 1 257 := ⟨at_256, rfl⟩
theorem e0_257 : Dc code 257 (.if_icmp .ne 7) 3 260 := ⟨at_257, rfl⟩
theorem e0_260 : Dc code 260 (.iconst 1) 1 261 := ⟨at_260, rfl⟩
theorem e0_261 : Dc code 261 (.goto 4) 3 264 := ⟨at_261, rfl⟩
theorem e0_265 : Dc code 265 (.istore 8) 2 267 := ⟨at_265, rfl⟩
theorem e0_267 : Dc code 267 (.iconst 1) 1 268 := ⟨at_267, rfl⟩
theorem e0_268 : Dc code 268 (.iload 6) 2 270 := ⟨at_268, rfl⟩
theorem e0_270 : Dc code 270 (.if_icmp .ge 28) 3 273 := ⟨at_270, rfl⟩
theorem e0_273 : Dc code 273 (.iload 8) 2 275 := ⟨at_273, rfl⟩
theorem e0_275 : Dc code 275 (.ifCond .eq 20) 3 278 := ⟨at_275, rfl⟩
theorem e0_278 : Dc code 278 (.aload 7) 2 280 := ⟨at_278, rfl⟩
theorem e0_280 : Dc code 280 (.iconst 1) 1 281 := ⟨at_280, rfl⟩
theorem e0_281 : Dc code 281 (.invokevirtual 28) 3 284 := ⟨at_281, rfl⟩
theorem e0_284 : Dc code 284 (.aload 5) 2 286 := ⟨at_284, rfl⟩
theorem e0_286 : Dc code 286 (.iconst 1) 1 287 := ⟨at_286, rfl⟩
theorem e0_287 : Dc code 287 (.iaload) 1 288 := ⟨at_287, rfl⟩
theorem e0_288 : Dc code 288 (.if_icmp .ne 7) 3 291 := ⟨at_288, rfl⟩
theorem e0_291 : Dc code 291 (.iconst 1) 1 292 := ⟨at_291, rfl⟩
theorem e0_292 : Dc code 292 (.goto 4) 3 295 := ⟨at_292, rfl⟩
theorem e0_296 : Dc code 296 (.istore 8) 2 298 := ⟨at_296, rfl⟩
theorem e0_298 : Dc code 298 (.iconst 2) 1 299 := ⟨at_298, rfl⟩
theorem e0_299 : Dc code 299 (.iload 6) 2 301 := ⟨at_299, rfl⟩
theorem e0_301 : Dc code 301 (.if_icmp .ge 28) 3 304 := ⟨at_301, rfl⟩
theorem e0_304 : Dc code 304 (.iload 8) 2 306 := ⟨at_304, rfl⟩
theorem e0_306 : Dc code 306 (.ifCond .eq 20) 3 309 := ⟨at_306, rfl⟩
theorem e0_309 : Dc code 309 (.aload 7) 2 311 := ⟨at_309, rfl⟩
theorem e0_311 : Dc code 311 (.iconst 2) 1 312 := ⟨at_311, rfl⟩
theorem e0_312 : Dc code 312 (.invokevirtual 28) 3 315 := ⟨at_312, rfl⟩
theorem e0_315 : Dc code 315 (.aload 5) 2 317 := ⟨at_315, rfl⟩
theorem e0_317 : Dc code 317 (.iconst 2) 1 318 := ⟨at_317, rfl⟩
theorem e0_318 : Dc code 318 (.iaload) 1 319 := ⟨at_318, rfl⟩
theorem e0_319 : Dc code 319 (.if_icmp .ne 7) 3 322 := ⟨at_319, rfl⟩
theorem e0_322 : Dc code 322 (.iconst 1) 1 323 := ⟨at_322, rfl⟩
theorem e0_323 : Dc code 323 (.goto 4) 3 326 := ⟨at_323, rfl⟩
theorem e0_327 : Dc code 327 (.istore 8) 2 329 := ⟨at_327, rfl⟩
theorem e0_329 : Dc code 329 (.iconst 3) 1 330 := ⟨at_329, rfl⟩
theorem e0_330 : Dc code 330 (.iload 6) 2 332 := ⟨at_330, rfl⟩
theorem e0_332 : Dc code 332 (.if_icmp .ge 28) 3 335 := ⟨at_332, rfl⟩
theorem e0_335 : Dc code 335 (.iload 8) 2 337 := ⟨at_335, rfl⟩
theorem e0_337 : Dc code 337 (.ifCond .eq 20) 3 340 := ⟨at_337, rfl⟩
theorem e0_340 : Dc code 340 (.aload 7) 2 342 := ⟨at_340, rfl⟩
theorem e0_342 : Dc code 342 (.iconst 3) 1 343 := ⟨at_342, rfl⟩
theorem e0_343 : Dc code 343 (.invokevirtual 28) 3 346 := ⟨at_343, rfl⟩
theorem e0_346 : Dc code 346 (.aload 5) 2 348 := ⟨at_346, rfl⟩
theorem e0_348 : Dc code 348 (.iconst 3) 1 349 := ⟨at_348, rfl⟩
theorem e0_349 : Dc code 349 (.iaload) 1 350 := ⟨at_349, rfl⟩
theorem e0_350 : Dc code 350 (.if_icmp .ne 7) 3 353 := ⟨at_350, rfl⟩
theorem e0_353 : Dc code 353 (.iconst 1) 1 354 := ⟨at_353, rfl⟩
theorem e0_354 : Dc code 354 (.goto 4) 3 357 := ⟨at_354, rfl⟩
theorem e0_358 : Dc code 358 (.istore 8) 2 360 := ⟨at_358, rfl⟩
theorem e0_360 : Dc code 360 (.iconst 4) 1 361 := ⟨at_360, rfl⟩
theorem e0_361 : Dc code 361 (.iload 6) 2 363 := ⟨at_361, rfl⟩
theorem e0_363 : Dc code 363 (.if_icmp .ge 28) 3 366 := ⟨at_363, rfl⟩
theorem e0_366 : Dc code 366 (.iload 8) 2 368 := ⟨at_366, rfl⟩
theorem e0_368 : Dc code 368 (.ifCond .eq 20) 3 371 := ⟨at_368, rfl⟩
theorem e0_371 : Dc code 371 (.aload 7) 2 373 := ⟨at_371, rfl⟩
theorem e0_373 : Dc code 373 (.iconst 4) 1 374 := ⟨at_373, rfl⟩
theorem e0_374 : Dc code 374 (.invokevirtual 28) 3 377 := ⟨at_374, rfl⟩
theorem e0_377 : Dc code 377 (.aload 5) 2 379 := ⟨at_377, rfl⟩
theorem e0_379 : Dc code 379 (.iconst 4) 1 380 := ⟨at_379, rfl⟩
theorem e0_380 : Dc code 380 (.iaload) 1 381 := ⟨at_380, rfl⟩
theorem e0_381 : Dc code 381 (.if_icmp .ne 7) 3 384 := ⟨at_381, rfl⟩
theorem e0_384 : Dc code 384 (.iconst 1) 1 385 := ⟨at_384, rfl⟩
theorem e0_385 : Dc code 385 (.goto 4) 3 388 := ⟨at_385, rfl⟩
theorem e0_389 : Dc code 389 (.istore 8) 2 391 := ⟨at_389, rfl⟩
theorem e0_391 : Dc code 391 (.iload 8) 2 393 := ⟨at_391, rfl⟩
theorem e0_393 : Dc code 393 (.ireturn) 1 394 := ⟨at_393, rfl⟩
theorem e1_0 : Dc prog_9_method_2_code 0 (.aload_n 0) 1 1 := ⟨by decide +kernel, rfl⟩
theorem e1_1 : Dc prog_9_method_2_code 1 (.iconst 0) 1 2 := ⟨by decide +kernel, rfl⟩
theorem e1_2 : Dc prog_9_method_2_code 2 (.aload_n 0) 1 3 := ⟨by decide +kernel, rfl⟩
theorem e1_3 : Dc prog_9_method_2_code 3 (.arraylength) 1 4 := ⟨by decide +kernel, rfl⟩
theorem e1_4 : Dc prog_9_method_2_code 4 (.invokestatic 17) 3 7 := ⟨by decide +kernel, rfl⟩
theorem e1_7 : Dc prog_9_method_2_code 7 (.istore_n 1) 1 8 := ⟨by decide +kernel, rfl⟩
theorem e1_8 : Dc prog_9_method_2_code 8 (.iload_n 1) 1 9 := ⟨by decide +kernel, rfl⟩
theorem e1_9 : Dc prog_9_method_2_code 9 (.iconst 1) 1 10 := ⟨by decide +kernel, rfl⟩
theorem e1_10 : Dc prog_9_method_2_code 10 (.iadd) 1 11 := ⟨by decide +kernel, rfl⟩
theorem e1_11 : Dc prog_9_method_2_code 11 (.newarray .int) 2 13 := ⟨by decide +kernel, rfl⟩
theorem e1_13 : Dc prog_9_method_2_code 13 (.astore_n 2) 1 14 := ⟨by decide +kernel, rfl⟩
theorem e1_14 : Dc prog_9_method_2_code 14 (.iconst 0) 1 15 := ⟨by decide +kernel, rfl⟩
theorem e1_15 : Dc prog_9_method_2_code 15 (.istore_n 3) 1 16 := ⟨by decide +kernel, rfl⟩
theorem e1_16 : Dc prog_9_method_2_code 16 (.iconst 0) 1 17 := ⟨by decide +kernel, rfl⟩
theorem e1_17 : Dc prog_9_method_2_code 17 (.istore 4) 2 19 := ⟨by decide +kernel, rfl⟩
theorem e1_19 : Dc prog_9_method_2_code 19 (.iload 4) 2 21 := ⟨by decide +kernel, rfl⟩
theorem e1_21 : Dc prog_9_method_2_code 21 (.aload_n 0) 1 22 := ⟨by decide +kernel, rfl⟩
theorem e1_22 : Dc prog_9_method_2_code 22 (.arraylength) 1 23 := ⟨by decide +kernel, rfl⟩
theorem e1_23 : Dc prog_9_method_2_code 23 (.if_icmp .ge 28) 3 26 := ⟨by decide +kernel, rfl⟩
theorem e1_26 : Dc prog_9_method_2_code 26 (.aload_n 0) 1 27 := ⟨by decide +kernel, rfl⟩
theorem e1_27 : Dc prog_9_method_2_code 27 (.iload 4) 2 29 := ⟨by decide +kernel, rfl⟩
theorem e1_29 : Dc prog_9_method_2_code 29 (.baload) 1 30 := ⟨by decide +kernel, rfl⟩
theorem e1_30 : Dc prog_9_method_2_code 30 (.bipush 10) 2 32 := ⟨by decide +kernel, rfl⟩
theorem e1_32 : Dc prog_9_method_2_code 32 (.if_icmp .ne 13) 3 35 := ⟨by decide +kernel, rfl⟩
theorem e1_35 : Dc prog_9_method_2_code 35 (.aload_n 2) 1 36 := ⟨by decide +kernel, rfl⟩
theorem e1_36 : Dc prog_9_method_2_code 36 (.iinc 3 1) 3 39 := ⟨by decide +kernel, rfl⟩
theorem e1_39 : Dc prog_9_method_2_code 39 (.iload_n 3) 1 40 := ⟨by decide +kernel, rfl⟩
theorem e1_40 : Dc prog_9_method_2_code 40 (.iload 4) 2 42 := ⟨by decide +kernel, rfl⟩
theorem e1_42 : Dc prog_9_method_2_code 42 (.iconst 1) 1 43 := ⟨by decide +kernel, rfl⟩
theorem e1_43 : Dc prog_9_method_2_code 43 (.iadd) 1 44 := ⟨by decide +kernel, rfl⟩
theorem e1_44 : Dc prog_9_method_2_code 44 (.iastore) 1 45 := ⟨by decide +kernel, rfl⟩
theorem e1_45 : Dc prog_9_method_2_code 45 (.iinc 4 1) 3 48 := ⟨by decide +kernel, rfl⟩
theorem e1_48 : Dc prog_9_method_2_code 48 (.goto (-29)) 3 51 := ⟨by decide +kernel, rfl⟩
theorem e1_51 : Dc prog_9_method_2_code 51 (.aload_n 2) 1 52 := ⟨by decide +kernel, rfl⟩
theorem e1_52 : Dc prog_9_method_2_code 52 (.iload_n 1) 1 53 := ⟨by decide +kernel, rfl⟩
theorem e1_53 : Dc prog_9_method_2_code 53 (.aload_n 0) 1 54 := ⟨by decide +kernel, rfl⟩
theorem e1_54 : Dc prog_9_method_2_code 54 (.arraylength) 1 55 := ⟨by decide +kernel, rfl⟩
theorem e1_55 : Dc prog_9_method_2_code 55 (.iastore) 1 56 := ⟨by decide +kernel, rfl⟩
theorem e1_56 : Dc prog_9_method_2_code 56 (.new 8) 3 59 := ⟨by decide +kernel, rfl⟩
theorem e1_59 : Dc prog_9_method_2_code 59 (.dup) 1 60 := ⟨by decide +kernel, rfl⟩
theorem e1_60 : Dc prog_9_method_2_code 60 (.aload_n 0) 1 61 := ⟨by decide +kernel, rfl⟩
theorem e1_61 : Dc prog_9_method_2_code 61 (.aload_n 2) 1 62 := ⟨by decide +kernel, rfl⟩
theorem e1_62 : Dc prog_9_method_2_code 62 (.invokespecial 21) 3 65 := ⟨by decide +kernel, rfl⟩
theorem e1_65 : Dc prog_9_method_2_code 65 (.areturn) 1 66 := ⟨by decide +kernel, rfl⟩
theorem e2_0 : Dc prog_9_method_3_code 0 (.iconst 0) 1 1 := ⟨by decide +kernel, rfl⟩
theorem e2_1 : Dc prog_9_method_3_code 1 (.istore_n 3) 1 2 := ⟨by decide +kernel, rfl⟩
theorem e2_2 : Dc prog_9_method_3_code 2 (.iload_n 1) 1 3 := ⟨by decide +kernel, rfl⟩
theorem e2_3 : Dc prog_9_method_3_code 3 (.istore 4) 2 5 := ⟨by decide +kernel, rfl⟩
theorem e2_5 : Dc prog_9_method_3_code 5 (.iload 4) 2 7 := ⟨by decide +kernel, rfl⟩
theorem e2_7 : Dc prog_9_method_3_code 7 (.iload_n 1) 1 8 := ⟨by decide +kernel, rfl⟩
theorem e2_8 : Dc prog_9_method_3_code 8 (.iload_n 2) 1 9 := ⟨by decide +kernel, rfl⟩
theorem e2_9 : Dc prog_9_method_3_code 9 (.iadd) 1 10 := ⟨by decide +kernel, rfl⟩
theorem e2_10 : Dc prog_9_method_3_code 10 (.if_icmp .ge 21) 3 13 := ⟨by decide +kernel, rfl⟩
theorem e2_13 : Dc prog_9_method_3_code 13 (.aload_n 0) 1 14 := ⟨by decide +kernel, rfl⟩
theorem e2_14 : Dc prog_9_method_3_code 14 (.iload 4) 2 16 := ⟨by decide +kernel, rfl⟩
theorem e2_16 : Dc prog_9_method_3_code 16 (.baload) 1 17 := ⟨by decide +kernel, rfl⟩
theorem e2_17 : Dc prog_9_method_3_code 17 (.bipush 10) 2 19 := ⟨by decide +kernel, rfl⟩
theorem e2_19 : Dc prog_9_method_3_code 19 (.if_icmp .ne 6) 3 22 := ⟨by decide +kernel, rfl⟩
theorem e2_22 : Dc prog_9_method_3_code 22 (.iinc 3 1) 3 25 := ⟨by decide +kernel, rfl⟩
theorem e2_25 : Dc prog_9_method_3_code 25 (.iinc 4 1) 3 28 := ⟨by decide +kernel, rfl⟩
theorem e2_28 : Dc prog_9_method_3_code 28 (.goto (-23)) 3 31 := ⟨by decide +kernel, rfl⟩
theorem e2_31 : Dc prog_9_method_3_code 31 (.iload_n 2) 1 32 := ⟨by decide +kernel, rfl⟩
theorem e2_32 : Dc prog_9_method_3_code 32 (.ifCond .le 18) 3 35 := ⟨by decide +kernel, rfl⟩
theorem e2_35 : Dc prog_9_method_3_code 35 (.aload_n 0) 1 36 := ⟨by decide +kernel, rfl⟩
theorem e2_36 : Dc prog_9_method_3_code 36 (.iload_n 1) 1 37 := ⟨by decide +kernel, rfl⟩
theorem e2_37 : Dc prog_9_method_3_code 37 (.iload_n 2) 1 38 := ⟨by decide +kernel, rfl⟩
theorem e2_38 : Dc prog_9_method_3_code 38 (.iadd) 1 39 := ⟨by decide +kernel, rfl⟩
theorem e2_39 : Dc prog_9_method_3_code 39 (.iconst 1) 1 40 := ⟨by decide +kernel, rfl⟩
theorem e2_40 : Dc prog_9_method_3_code 40 (.isub) 1 41 := ⟨by decide +kernel, rfl⟩
theorem e2_41 : Dc prog_9_method_3_code 41 (.baload) 1 42 := ⟨by decide +kernel, rfl⟩
theorem e2_42 : Dc prog_9_method_3_code 42 (.bipush 10) 2 44 := ⟨by decide +kernel, rfl⟩
theorem e2_44 : Dc prog_9_method_3_code 44 (.if_icmp .eq 6) 3 47 := ⟨by decide +kernel, rfl⟩
theorem e2_47 : Dc prog_9_method_3_code 47 (.iinc 3 1) 3 50 := ⟨by decide +kernel, rfl⟩
theorem e2_50 : Dc prog_9_method_3_code 50 (.iload_n 3) 1 51 := ⟨by decide +kernel, rfl⟩
theorem e2_51 : Dc prog_9_method_3_code 51 (.ireturn) 1 52 := ⟨by decide +kernel, rfl⟩
theorem e3_0 : Dc prog_9_method_1_code 0 (.aload_n 0) 1 1 := ⟨by decide +kernel, rfl⟩
theorem e3_1 : Dc prog_9_method_1_code 1 (.invokespecial 1) 3 4 := ⟨by decide +kernel, rfl⟩
theorem e3_4 : Dc prog_9_method_1_code 4 (.aload_n 0) 1 5 := ⟨by decide +kernel, rfl⟩
theorem e3_5 : Dc prog_9_method_1_code 5 (.aload_n 1) 1 6 := ⟨by decide +kernel, rfl⟩
theorem e3_6 : Dc prog_9_method_1_code 6 (.putfield 7) 3 9 := ⟨by decide +kernel, rfl⟩
theorem e3_9 : Dc prog_9_method_1_code 9 (.aload_n 0) 1 10 := ⟨by decide +kernel, rfl⟩
theorem e3_10 : Dc prog_9_method_1_code 10 (.aload_n 2) 1 11 := ⟨by decide +kernel, rfl⟩
theorem e3_11 : Dc prog_9_method_1_code 11 (.putfield 13) 3 14 := ⟨by decide +kernel, rfl⟩
theorem e3_14 : Dc prog_9_method_1_code 14 (.return_) 1 15 := ⟨by decide +kernel, rfl⟩
theorem e5_0 : Dc prog_9_method_4_code 0 (.aload_n 0) 1 1 := ⟨by decide +kernel, rfl⟩
theorem e5_1 : Dc prog_9_method_4_code 1 (.getfield 7) 3 4 := ⟨by decide +kernel, rfl⟩
theorem e5_4 : Dc prog_9_method_4_code 4 (.areturn) 1 5 := ⟨by decide +kernel, rfl⟩
theorem e6_0 : Dc prog_9_method_5_code 0 (.aload_n 0) 1 1 := ⟨by decide +kernel, rfl⟩
theorem e6_1 : Dc prog_9_method_5_code 1 (.getfield 13) 3 4 := ⟨by decide +kernel, rfl⟩
theorem e6_4 : Dc prog_9_method_5_code 4 (.arraylength) 1 5 := ⟨by decide +kernel, rfl⟩
theorem e6_5 : Dc prog_9_method_5_code 5 (.iconst 1) 1 6 := ⟨by decide +kernel, rfl⟩
theorem e6_6 : Dc prog_9_method_5_code 6 (.isub) 1 7 := ⟨by decide +kernel, rfl⟩
theorem e6_7 : Dc prog_9_method_5_code 7 (.ireturn) 1 8 := ⟨by decide +kernel, rfl⟩
theorem e7_0 : Dc prog_9_method_6_code 0 (.aload_n 0) 1 1 := ⟨by decide +kernel, rfl⟩
theorem e7_1 : Dc prog_9_method_6_code 1 (.getfield 13) 3 4 := ⟨by decide +kernel, rfl⟩
theorem e7_4 : Dc prog_9_method_6_code 4 (.iload_n 1) 1 5 := ⟨by decide +kernel, rfl⟩
theorem e7_5 : Dc prog_9_method_6_code 5 (.iaload) 1 6 := ⟨by decide +kernel, rfl⟩
theorem e7_6 : Dc prog_9_method_6_code 6 (.ireturn) 1 7 := ⟨by decide +kernel, rfl⟩
theorem e8_0 : Dc method_2_code 0 (.iload_n 0) 1 1 := ⟨by decide +kernel, rfl⟩
theorem e8_1 : Dc method_2_code 1 (.iload_n 2) 1 2 := ⟨by decide +kernel, rfl⟩
theorem e8_2 : Dc method_2_code 2 (.ishr) 1 3 := ⟨by decide +kernel, rfl⟩
theorem e8_3 : Dc method_2_code 3 (.iconst 1) 1 4 := ⟨by decide +kernel, rfl⟩
theorem e8_4 : Dc method_2_code 4 (.iand) 1 5 := ⟨by decide +kernel, rfl⟩
theorem e8_5 : Dc method_2_code 5 (.ifCond .eq 6) 3 8 := ⟨by decide +kernel, rfl⟩
theorem e8_8 : Dc method_2_code 8 (.bipush 10) 2 10 := ⟨by decide +kernel, rfl⟩
theorem e8_10 : Dc method_2_code 10 (.ireturn) 1 11 := ⟨by decide +kernel, rfl⟩
theorem e8_11 : Dc method_2_code 11 (.iload_n 1) 1 12 := ⟨by decide +kernel, rfl⟩
theorem e8_12 : Dc method_2_code 12 (.bipush 8) 2 14 := ⟨by decide +kernel, rfl⟩
theorem e8_14 : Dc method_2_code 14 (.iload_n 2) 1 15 := ⟨by decide +kernel, rfl⟩
theorem e8_15 : Dc method_2_code 15 (.imul) 1 16 := ⟨by decide +kernel, rfl⟩
theorem e8_16 : Dc method_2_code 16 (.ishr) 1 17 := ⟨by decide +kernel, rfl⟩
theorem e8_17 : Dc method_2_code 17 (.i2b) 1 18 := ⟨by decide +kernel, rfl⟩
theorem e8_18 : Dc method_2_code 18 (.ireturn) 1 19 := ⟨by decide +kernel, rfl⟩
theorem pn_0 : plainName "com/example/deltaweave/deltaweave/delta/Lines" = true := by first | (simp [plainName, overriddenIn]; done) | decide +kernel
theorem pf_1 : parseFieldDescriptor "[B" = some (.array .byte) := by decide +kernel
theorem pf_2 : parseFieldDescriptor "[I" = some (.array .int) := by decide +kernel
theorem pn_3 : plainName "com/example/deltaweave/deltaweave/delta/LinesOfPinLaw" = true := by first | (simp [plainName, overriddenIn]; done) | decide +kernel
theorem lay_4 {Z : State} {a0 : Array Value} {b : Nat} (hw : ∀ d ∈ tables_1, d.before a0 Z = true) : Laids Z a0 b "com/example/deltaweave/deltaweave/delta/Lines" [("data", "[B", .null), ("starts", "[I", .null)] := ⟨⟨Or.inr (hw _ (wd 19 rfl)), _, pf_1, rfl⟩, ⟨⟨Or.inr (hw _ (wd 21 rfl)), _, pf_2, rfl⟩, trivial⟩⟩
theorem nd_5 : (["data", "starts"] : List String).Nodup := by decide
theorem hy_6 : "com/example/deltaweave/deltaweave/delta/Lines" ≠ "java/lang/invoke/MethodHandle" ∧ "com/example/deltaweave/deltaweave/delta/Lines" ≠ "java/lang/invoke/VarHandle" := by decide
theorem pd_7 : parseMethodDescriptor "([B[I)V" = some ⟨[(.array .byte), (.array .int)], none⟩ := by decide +kernel
theorem pd_8 : parseMethodDescriptor "([BII)I" = some ⟨[(.array .byte), .int, .int], some .int⟩ := by decide +kernel
theorem pd_9 : parseMethodDescriptor "([B)Lcom/example/deltaweave/deltaweave/delta/Lines;" = some ⟨[(.array .byte)], some (.object "com/example/deltaweave/deltaweave/delta/Lines")⟩ := by decide +kernel
theorem pd_10 : parseMethodDescriptor "()[B" = some ⟨[], some (.array .byte)⟩ := by decide +kernel
theorem pd_11 : parseMethodDescriptor "()I" = some ⟨[], some .int⟩ := by decide +kernel
theorem pd_12 : parseMethodDescriptor "(I)I" = some ⟨[.int], some .int⟩ := by decide +kernel
theorem hy_13 : "com/example/deltaweave/deltaweave/delta/LinesOfPinLaw" ≠ "java/lang/invoke/MethodHandle" ∧ "com/example/deltaweave/deltaweave/delta/LinesOfPinLaw" ≠ "java/lang/invoke/VarHandle" := by decide
theorem pd_14 : parseMethodDescriptor "(III)B" = some ⟨[.int, .int, .int], some .byte⟩ := by decide +kernel
def own_b (xs : List Int32) (i : Nat) : Int := if xs[i]? = some 10 then 1 else 0
theorem own_b01 (xs : List Int32) (i : Nat) : 0 ≤ own_b xs i ∧ own_b xs i ≤ 1 := by unfold own_b; split <;> omega
def own_c (xs : List Int32) : Nat → Nat → Int
  | _, 0 => 0
  | i, n + 1 => own_b xs i + own_c xs (i + 1) n
def own_last (xs : List Int32) (off len : Nat) : Int := if 0 < len then 1 - own_b xs (off + len - 1) else 0
theorem own_cb (xs : List Int32) : ∀ (n i : Nat), 0 ≤ own_c xs i n ∧ own_c xs i n ≤ n
  | 0, i => by simp [own_c]
  | n + 1, i => by
    have h := own_cb xs n (i + 1)
    have h2 := own_b01 xs i
    simp only [own_c]
    omega
abbrev vsOf (xs : List Int32) : List Value := xs.map Value.int
theorem own_at {xs : List Int32} {i : Nat} {x : Int32} (h : xs[i]? = some x) : (vsOf xs)[i]? = some (.int x) := by simp [h]
theorem own_byes {xs : List Int32} {i : Nat} {x : Int32} (h : xs[i]? = some x) (e : x = 10) : own_b xs i = 1 := by unfold own_b; rw [h, e]; rfl
theorem own_bno {xs : List Int32} {i : Nat} {x : Int32} (h : xs[i]? = some x) (e : ¬ x = 10) : own_b xs i = 0 := by unfold own_b; rw [h, if_neg]; intro z; exact e (Option.some.inj z)
theorem own_inc {s : Int32} {C : Int} (h : s.toInt = C) (hn : -1000 ≤ C) (hm : C ≤ 1000) : (s + 1).toInt = C + 1 := by
  have e := c_iadd s 1
  have k1 : (1 : Int32).toInt = 1 := rfl
  have l1 := Int32.le_toInt (s + 1)
  have l2 := Int32.toInt_lt (s + 1)
  rw [k1] at e
  omega
theorem own_sum {a c : Int32} {m n : Int} (h1 : a.toInt = m) (h2 : c.toInt = n) (l : -1000 ≤ m + n) (u : m + n ≤ 1000) : (a + c).toInt = m + n := by
  have e := c_iadd a c
  have l1 := Int32.le_toInt (a + c)
  have l2 := Int32.toInt_lt (a + c)
  omega
theorem own_dec {s : Int32} {C : Int} (h : s.toInt = C) (hn : -1000 ≤ C) (hm : C ≤ 1000) : (s - 1).toInt = C - 1 := by
  have e := c_isub s 1
  have k1 : (1 : Int32).toInt = 1 := rfl
  have l1 := Int32.le_toInt (s - 1)
  have l2 := Int32.toInt_lt (s - 1)
  rw [k1] at e
  omega
abbrev Lo (d s : Value) : GCell := ob "com/example/deltaweave/deltaweave/delta/Lines" [("data", "[B", d), ("starts", "[I", s)]
abbrev N2I (n : Nat) : Value := .int (Int32.ofNat n)
def own_lf (xs : List Int32) : Nat → Nat → List Nat
  | _, 0 => []
  | i, n + 1 => if own_b xs i = 1 then (i + 1) :: own_lf xs (i + 1) n else own_lf xs (i + 1) n
theorem own_lfl (xs : List Int32) : ∀ (n i : Nat), ((own_lf xs i n).length : Int) = own_c xs i n
  | 0, i => by simp [own_lf, own_c]
  | n + 1, i => by
    have h := own_lfl xs n (i + 1)
    have h2 := own_b01 xs i
    simp only [own_lf, own_c]
    split
    · rename_i h3
      simp only [List.length_cons]
      omega
    · omega
theorem own_lastb (xs : List Int32) (off len : Nat) : 0 ≤ own_last xs off len ∧ own_last xs off len ≤ 1 := by
  have := own_b01 xs (off + len - 1)
  unfold own_last
  split <;> omega
theorem own_setlast (H : List GCell) (x y : GCell) : (H ++ [x]).set H.length y = H ++ [y] := by simp
theorem own_setlast2 (H : List GCell) (x y z : GCell) : (H ++ [x] ++ [y]).set (H ++ [x]).length z = H ++ [x, z] := by simp
theorem own_byte (x : Int32) : x.toInt8.toInt32.toInt8.toInt32 = x.toInt8.toInt32 := by simp
theorem own_N (n : Nat) (h : n ≤ 1000) : (Int32.ofNat n).toInt = (n : Int) := Int32.toInt_ofNat_of_lt (by omega)
theorem own_ofN {x : Int32} {k : Nat} (h : x.toInt = (k : Int)) : x = Int32.ofNat k := by
  apply Int32.toInt_inj.mp
  have := Int32.toInt_lt x
  rw [h, Int32.toInt_ofNat_of_lt (by omega)]
def St (D : List Nat) (st : List Value) : Prop := ∀ (j p : Nat), (0 :: D)[j]? = some p → st[j]? = some (N2I p)
theorem own_st1 {D : List Nat} {st : List Value} {p : Nat} {x : Int32} (h : St D st) (hx : x = Int32.ofNat p) (hl : D.length + 1 < st.length) : St (D ++ [p]) (st.set (D.length + 1) (.int x)) := by
  intro j q hq
  subst hx
  rw [List.getElem?_set]
  by_cases e : D.length + 1 = j
  · subst e
    rw [if_pos rfl, if_pos hl]
    simp at hq
    rw [hq]
  · rw [if_neg e]
    refine h j q ?_
    have hj : j < (0 :: (D ++ [p])).length := (List.getElem?_eq_some_iff.mp hq).1
    rw [← List.cons_append, List.getElem?_append_left (by simp at hj ⊢; omega)] at hq
    exact hq

set_option maxRecDepth 65536 in
set_option maxHeartbeats 4000000 in
theorem c_count {l : Launch} {Z : State} {a0 : Array Value} {b : Nat} (hw : ∀ d ∈ tables_1, d.before a0 Z = true) {H : List GCell} {q off len : Nat} {o l0 : Int32} {xs : List Int32} (hq : H[q]? = some (ar .byte (vsOf xs))) (ho : o.toInt = (off : Int)) (hl : l0.toInt = (len : Int)) (hlen : off + len ≤ xs.length) (hsm : xs.length ≤ 100) :
    Met l Z a0 b (⟨"com/example/deltaweave/deltaweave/delta/Lines", "count", "([BII)I"⟩ : MethodName) prog_9_method_3_code 5 (some .int) ({ frames := 0, cells := 0, slots := 0, locals := 0 } : Room) [.ref q, .int o, .int l0] H (fun v H' => ∃ u, v = some u ∧ (∃ z : Int32, u = .int z ∧ z.toInt = own_c xs off len + own_last xs off len ∧ H' = H)) := by
  have hs := own_sum ho hl (by omega) (by omega)
  refine Met.of_go hw (plainFor_of_name pn_0) (L0 := [.val (.ref q), .val (.int o), .val (.int l0), .unset, .unset]) rfl ?_
  intro p e s m args below meth c C
  have loop : ∀ (r i : Nat) (ii cc : Int32) (Cn : Int), i + r = off + len → ii.toInt = (i : Int) → cc.toInt = Cn → 0 ≤ Cn → Cn + r ≤ 500 → Cn + own_c xs i r = own_c xs off len → Go C 5 [.val (.ref q), .val (.int o), .val (.int l0), .val (.int cc), .val (.int ii)] [] H 0 0 := by
    intro r
    induction r with
    | zero =>
      intro i ii cc Cn hir hii hcc hC hC2 hT
      have hr0 : (0 : Nat) = 0 := rfl
      refine go_iload e2_5 rfl ?_
      refine go_iloadN e2_7 rfl ?_
      refine go_iloadN e2_8 rfl ?_
      refine go_iadd e2_9 ?_
      refine go_icgeY e2_10 (tg := 31) (by decide) (by rw [hs]; omega) ?_
      refine go_iloadN e2_31 rfl ?_
      refine go_ifle e2_32 (tg := 50) (by decide) ?_ ?_
      · intro c32
        have hz : ¬ 0 < len := by omega
        refine go_iloadN e2_50 rfl ?_
        refine go_ireturn e2_51 rfl (by decide) (by decide) ?_
        exact ⟨_, rfl, _, rfl, by rw [hcc, own_last, if_neg hz, ← hT]; simp [own_c], rfl⟩
      · intro c32
        have hz : 0 < len := by omega
        obtain ⟨y, hy⟩ : ∃ y, xs[off + len - 1]? = some y := ⟨_, List.getElem?_eq_getElem (show off + len - 1 < xs.length by omega)⟩
        refine go_aloadN e2_35 rfl rfl ?_
        refine go_iloadN e2_36 rfl ?_
        refine go_iloadN e2_37 rfl ?_
        refine go_iadd e2_38 ?_
        refine go_iconst e2_39 (x := 1) rfl ?_
        refine go_isub e2_40 ?_
        refine go_baload e2_41 hq (k := off + len - 1) (by rw [own_dec hs (by omega) (by omega)]; omega) (own_at hy) ?_
        refine go_bipush e2_42 (x := 10) rfl ?_
        refine go_iceq e2_44 (tg := 50) (by decide) ?_ ?_
        · intro c44
          refine go_iloadN e2_50 rfl ?_
          refine go_ireturn e2_51 rfl (by decide) (by decide) ?_
          exact ⟨_, rfl, _, rfl, by rw [hcc, own_last, if_pos hz, own_byes hy c44, ← hT]; simp [own_c], rfl⟩
        · intro c44
          refine go_iinc_3 e2_47 (z := 1) rfl ?_
          refine go_iloadN e2_50 rfl ?_
          refine go_ireturn e2_51 rfl (by decide) (by decide) ?_
          exact ⟨_, rfl, _, rfl, by rw [own_inc hcc (by omega) (by omega), own_last, if_pos hz, own_bno hy c44, ← hT]; simp [own_c], rfl⟩
    | succ r ih =>
      intro i ii cc Cn hir hii hcc hC hC2 hT
      obtain ⟨y, hy⟩ : ∃ y, xs[i]? = some y := ⟨_, List.getElem?_eq_getElem (show i < xs.length by omega)⟩
      refine go_iload e2_5 rfl ?_
      refine go_iloadN e2_7 rfl ?_
      refine go_iloadN e2_8 rfl ?_
      refine go_iadd e2_9 ?_
      refine go_icgeN e2_10 (tg := 31) (by decide) (by rw [hs]; omega) ?_
      refine go_aloadN e2_13 rfl rfl ?_
      refine go_iload e2_14 rfl ?_
      refine go_baload e2_16 hq (k := i) hii (own_at hy) ?_
      refine go_bipush e2_17 (x := 10) rfl ?_
      refine go_icne e2_19 (tg := 25) (by decide) ?_ ?_
      · intro c19
        have hb0 := own_bno hy c19
        refine go_iinc_4 e2_25 (z := 1) rfl ?_
        refine go_goto e2_28 (tg := 5) (by decide) ?_
        first | exact ih (i + 1) (ii + 1) cc Cn (by omega) (by rw [own_inc hii (by omega) (by omega)]; omega) hcc (by omega) (by omega) (by rw [own_c, hb0] at hT; omega) | exact ih (i + 1) (ii + 1) (cc + 1) (Cn + 1) (by omega) (by rw [own_inc hii (by omega) (by omega)]; omega) (own_inc hcc (by omega) (by omega)) (by omega) (by omega) (by rw [own_c, hb0] at hT; omega)
      · intro c19
        have hb0 := own_byes hy c19
        refine go_iinc_3 e2_22 (z := 1) rfl ?_
        refine go_iinc_4 e2_25 (z := 1) rfl ?_
        refine go_goto e2_28 (tg := 5) (by decide) ?_
        first | exact ih (i + 1) (ii + 1) cc Cn (by omega) (by rw [own_inc hii (by omega) (by omega)]; omega) hcc (by omega) (by omega) (by rw [own_c, hb0] at hT; omega) | exact ih (i + 1) (ii + 1) (cc + 1) (Cn + 1) (by omega) (by rw [own_inc hii (by omega) (by omega)]; omega) (own_inc hcc (by omega) (by omega)) (by omega) (by omega) (by rw [own_c, hb0] at hT; omega)
  refine go_iconst e2_0 (x := 0) rfl ?_
  refine go_istore_3 e2_1 rfl ?_
  refine go_iloadN e2_2 rfl ?_
  refine go_istore_4 e2_3 rfl ?_
  exact loop len off o 0 0 rfl ho rfl (by omega) (by omega) (by omega)
set_option maxRecDepth 65536 in
set_option maxHeartbeats 4000000 in
theorem c_linit {l : Launch} {Z : State} {a0 : Array Value} {b : Nat} (hw : ∀ d ∈ tables_1, d.before a0 Z = true) {H : List GCell} {o : Nat} {d s1 : Nat} (ho : H[o]? = some (Lo .null .null)) :
    Met l Z a0 b (⟨"com/example/deltaweave/deltaweave/delta/Lines", "<init>", "([B[I)V"⟩ : MethodName) prog_9_method_1_code 3 none ({ frames := 1, cells := 0, slots := 0, locals := 12 } : Room) [.ref o, .ref d, .ref s1] H (fun v H' => v = none ∧ H' = H.set o (Lo (.ref d) (.ref s1))) := by
  refine Met.of_go hw (plainFor_of_name pn_0) (L0 := [.val (.ref o), .val (.ref d), .val (.ref s1)]) rfl ?_
  intro p e s m args below meth c C
  refine go_aloadN e3_0 rfl rfl ?_
  refine go_initO (C := C) e3_1 (wd 15 rfl) (wd 16 rfl) (wd (W := tables_1) 17 rfl) rfl (by decide) 0 (by decide) (by decide) ?_
  refine go_aloadN e3_4 rfl rfl ?_
  refine go_aloadN e3_5 rfl rfl ?_
  refine go_putfield e3_6 (wd 18 rfl) (Or.inr ⟨(wd 19 rfl), rfl, rfl⟩) (wd 11 rfl) pf_1 ho (j := 0) rfl rfl rfl ?_
  refine go_aloadN e3_9 rfl rfl ?_
  refine go_aloadN e3_10 rfl rfl ?_
  refine go_putfield e3_11 (wd 20 rfl) (Or.inr ⟨(wd 21 rfl), rfl, rfl⟩) (wd 11 rfl) pf_2 (get_eq ho) (j := 1) rfl rfl rfl ?_
  refine go_return e3_14 rfl (by decide) (by decide) ?_
  refine ⟨rfl, ?_⟩
  rw [List.set_set]
  rfl
set_option maxRecDepth 65536 in
set_option maxHeartbeats 4000000 in
theorem c_data {l : Launch} {Z : State} {a0 : Array Value} {b : Nat} (hw : ∀ d ∈ tables_1, d.before a0 Z = true) {H : List GCell} {q d s1 : Nat} (hq : H[q]? = some (Lo (.ref d) (.ref s1))) :
    Met l Z a0 b (⟨"com/example/deltaweave/deltaweave/delta/Lines", "data", "()[B"⟩ : MethodName) prog_9_method_4_code 1 (some (.array .byte)) ({ frames := 0, cells := 0, slots := 0, locals := 0 } : Room) [.ref q] H (fun v H' => ∃ u, v = some u ∧ (u = .ref d ∧ H' = H)) := by
  refine Met.of_go hw (plainFor_of_name pn_0) (L0 := [.val (.ref q)]) rfl ?_
  intro p e s m args below meth c C
  refine go_aloadN e5_0 rfl rfl ?_
  refine go_getfield e5_1 (wd 18 rfl) hq (j := 0) rfl ?_
  refine go_areturn e5_4 rfl rfl rfl (by decide) (by decide) ?_
  exact ⟨_, rfl, rfl, rfl⟩
set_option maxRecDepth 65536 in
set_option maxHeartbeats 4000000 in
theorem c_cnt {l : Launch} {Z : State} {a0 : Array Value} {b : Nat} (hw : ∀ d ∈ tables_1, d.before a0 Z = true) {H : List GCell} {q d s1 : Nat} {st : List Value} (hq : H[q]? = some (Lo (.ref d) (.ref s1))) (hs : H[s1]? = some (ar .int st)) :
    Met l Z a0 b (⟨"com/example/deltaweave/deltaweave/delta/Lines", "count", "()I"⟩ : MethodName) prog_9_method_5_code 1 (some .int) ({ frames := 0, cells := 0, slots := 0, locals := 0 } : Room) [.ref q] H (fun v H' => ∃ u, v = some u ∧ (u = .int (st.length.toInt32 - 1) ∧ H' = H)) := by
  refine Met.of_go hw (plainFor_of_name pn_0) (L0 := [.val (.ref q)]) rfl ?_
  intro p e s m args below meth c C
  refine go_aloadN e6_0 rfl rfl ?_
  refine go_getfield e6_1 (wd 20 rfl) hq (j := 1) rfl ?_
  refine go_len e6_4 hs (n := (st.length.toInt32)) rfl ?_
  refine go_iconst e6_5 (x := 1) rfl ?_
  refine go_isub e6_6 ?_
  refine go_ireturn e6_7 rfl (by decide) (by decide) ?_
  exact ⟨_, rfl, rfl, rfl⟩
set_option maxRecDepth 65536 in
set_option maxHeartbeats 4000000 in
theorem c_start {l : Launch} {Z : State} {a0 : Array Value} {b : Nat} (hw : ∀ d ∈ tables_1, d.before a0 Z = true) {H : List GCell} {q d s1 k p0 : Nat} {n : Int32} {st : List Value} (hq : H[q]? = some (Lo (.ref d) (.ref s1))) (hs : H[s1]? = some (ar .int st)) (hn : n.toInt = (k : Int)) (hv : st[k]? = some (N2I p0)) :
    Met l Z a0 b (⟨"com/example/deltaweave/deltaweave/delta/Lines", "start", "(I)I"⟩ : MethodName) prog_9_method_6_code 2 (some .int) ({ frames := 0, cells := 0, slots := 0, locals := 0 } : Room) [.ref q, .int n] H (fun v H' => ∃ u, v = some u ∧ (u = N2I p0 ∧ H' = H)) := by
  refine Met.of_go hw (plainFor_of_name pn_0) (L0 := [.val (.ref q), .val (.int n)]) rfl ?_
  intro p e s m args below meth c C
  refine go_aloadN e7_0 rfl rfl ?_
  refine go_getfield e7_1 (wd 20 rfl) hq (j := 1) rfl ?_
  refine go_iloadN e7_4 rfl ?_
  refine go_iaload e7_5 hs (k := k) hn hv ?_
  refine go_ireturn e7_6 rfl (by decide) (by decide) ?_
  exact ⟨_, rfl, rfl, rfl⟩
set_option maxRecDepth 65536 in
set_option maxHeartbeats 4000000 in
theorem c_pick {l : Launch} {Z : State} {a0 : Array Value} {b : Nat} (hw : ∀ d ∈ tables_1, d.before a0 Z = true) {H : List GCell} {s0 v0 i : Int32} :
    Met l Z a0 b (⟨"com/example/deltaweave/deltaweave/delta/LinesOfPinLaw", "pick", "(III)B"⟩ : MethodName) method_2_code 3 (some .byte) ({ frames := 0, cells := 0, slots := 0, locals := 0 } : Room) [.int s0, .int v0, .int i] H (fun v H' => ∃ u, v = some u ∧ (∃ z : Int32, u = .int z ∧ z.toInt8.toInt32 = z ∧ H' = H)) := by
  refine Met.of_go hw (plainFor_of_name pn_3) (L0 := [.val (.int s0), .val (.int v0), .val (.int i)]) rfl ?_
  intro p e s m args below meth c C
  refine go_iloadN e8_0 rfl ?_
  refine go_iloadN e8_1 rfl ?_
  refine go_ishr e8_2 ?_
  refine go_iconst e8_3 (x := 1) rfl ?_
  refine go_iand e8_4 ?_
  refine go_ifeq e8_5 (tg := 11) (by decide) ?_ ?_
  · intro c5
    refine go_iloadN e8_11 rfl ?_
    refine go_bipush e8_12 (x := 8) rfl ?_
    refine go_iloadN e8_14 rfl ?_
    refine go_imul e8_15 ?_
    refine go_ishr e8_16 ?_
    refine go_i2b e8_17 ?_
    refine go_breturn e8_18 rfl (own_byte _) (by decide) (by decide) ?_
    exact ⟨_, rfl, _, rfl, own_byte _, rfl⟩
  · intro c5
    refine go_bipush e8_8 (x := 10) rfl ?_
    refine go_breturn e8_10 rfl (by decide) (by decide) (by decide) ?_
    exact ⟨_, rfl, _, rfl, by decide, rfl⟩
set_option maxRecDepth 65536 in
set_option maxHeartbeats 4000000 in
theorem c_of {l : Launch} {Z : State} {a0 : Array Value} {b : Nat} (hw : ∀ d ∈ tables_1, d.before a0 Z = true) {H : List GCell} {q n : Nat} {xs : List Int32} (hq : H[q]? = some (ar .byte (vsOf xs))) (hn : xs.length = n) (hsm : n ≤ 4) :
    Met l Z a0 b (⟨"com/example/deltaweave/deltaweave/delta/Lines", "of", "([B)Lcom/example/deltaweave/deltaweave/delta/Lines;"⟩ : MethodName) prog_9_method_2_code 5 (some (.object "com/example/deltaweave/deltaweave/delta/Lines")) ({ frames := 2, cells := 2, slots := 8, locals := 27 } : Room) [.ref q] H (fun v H' => ∃ u, v = some u ∧ (u = .ref (H.length + 1) ∧ ∃ (st : List Value) (c : Nat), H' = H ++ [ar .int st, Lo (.ref q) (.ref H.length)] ∧ (c : Int) = own_c xs 0 n + own_last xs 0 n ∧ st.length = c + 1 ∧ (∀ (j p : Nat), j ≠ c → (0 :: own_lf xs 0 n)[j]? = some p → st[j]? = some (N2I p)) ∧ st[c]? = some (N2I n))) := by
  have hn32 : ((vsOf xs).length.toInt32).toInt = (n : Int) := by rw [List.length_map, hn]; exact len_toInt (by omega)
  refine Met.of_go hw (plainFor_of_name pn_0) (L0 := [.val (.ref q), .unset, .unset, .unset, .unset]) rfl ?_
  intro p e s m args below meth c C
  refine go_aloadN e1_0 rfl rfl ?_
  refine go_iconst e1_1 (x := 0) rfl ?_
  refine go_aloadN e1_2 rfl rfl ?_
  refine go_len e1_3 hq (n := ((vsOf xs).length.toInt32)) rfl ?_
  refine go_static_3 e1_4 (wd 7 rfl) (wd 8 rfl) (wd 9 rfl) (wd 5 rfl) hy_6 pd_8 rfl (c_count hw (off := 0) (len := n) hq rfl hn32 (by omega) (by omega)) rfl 0 rfl (by decide) (by decide) (by decide) (by decide) ?_
  rintro _ H2 ⟨z, rfl, hz0, hHe⟩
  rw [hHe]
  clear hHe
  obtain ⟨c, hc⟩ : ∃ c : Nat, (c : Int) = own_c xs 0 n + own_last xs 0 n := ⟨(own_c xs 0 n + own_last xs 0 n).toNat, by have := own_cb xs n 0; have := own_lastb xs 0 n; omega⟩
  have hz : z.toInt = (c : Int) := by rw [hz0, hc]
  have hcb := own_cb xs n 0
  have hlb := own_lastb xs 0 n
  have hPc := own_lfl xs n 0
  refine go_istore_1 e1_7 rfl ?_
  refine go_iloadN e1_8 rfl ?_
  refine go_iconst e1_9 (x := 1) rfl ?_
  refine go_iadd e1_10 ?_
  refine go_newarray e1_11 (wd 2 rfl) (k := c + 1) (by rw [own_inc hz (by omega) (by omega)]; omega) (vs := List.replicate (c + 1) (.int 0)) rfl (cap := 6) (by omega) (by decide) (by decide) (by decide) ?_
  refine go_astore_2 e1_13 rfl rfl ?_
  refine go_iconst e1_14 (x := 0) rfl ?_
  refine go_istore_3 e1_15 rfl ?_
  refine go_iconst e1_16 (x := 0) rfl ?_
  refine go_istore_4 e1_17 rfl ?_
  have loop : ∀ (r i : Nat) (ii ln : Int32) (D : List Nat) (st : List Value), i + r = n → ii.toInt = (i : Int) → ln.toInt = (D.length : Int) → D ++ own_lf xs i r = own_lf xs 0 n → st.length = c + 1 → St D st → Go C 19 [.val (.ref q), .val (.int z), .val (.ref H.length), .val (.int ln), .val (.int ii)] [] (H ++ [ar .int st]) (0 + 0 + 1) (0 + 0 + 6) := by
    intro r
    induction r with
    | zero =>
      intro i ii ln D st hir hii hln hD hsl hst
      refine go_iload e1_19 rfl ?_
      refine go_aloadN e1_21 rfl rfl ?_
      refine go_len e1_22 (get_app hq) (n := ((vsOf xs).length.toInt32)) rfl ?_
      refine go_icgeY e1_23 (tg := 51) (by decide) (by rw [hn32, hii]; omega) ?_
      refine go_aloadN e1_51 rfl rfl ?_
      refine go_iloadN e1_52 rfl ?_
      refine go_aloadN e1_53 rfl rfl ?_
      refine go_len e1_54 (get_app hq) (n := ((vsOf xs).length.toInt32)) rfl ?_
      refine go_iastore e1_55 get_last (k := c) hz (by rw [hsl]; omega) ?_
      rw [own_setlast]
      refine go_new e1_56 (wd 10 rfl) (wd 11 rfl) (wd 5 rfl) (lay_4 hw) nd_5 (by decide) (by decide) ?_
      refine go_dup e1_59 rfl ?_
      refine go_aloadN e1_60 rfl rfl ?_
      refine go_aloadN e1_61 rfl rfl ?_
      refine go_specialV_2 rfl e1_62 (wd 12 rfl) (wd 13 rfl) (wd 14 rfl) (wd 5 rfl) hy_6 pd_7 rfl (c_linit hw get_last) rfl 1 rfl (by decide) (by decide) (by decide) (by decide) ?_
      rintro _ rfl
      rw [own_setlast2]
      refine go_areturn e1_65 rfl rfl rfl (by decide) (by decide) ?_
      refine ⟨_, rfl, by simp, _, c, rfl, hc, by rw [List.length_set]; exact hsl, fun j p hj hp => ?_, ?_⟩
      · rw [List.getElem?_set_ne (fun e => hj e.symm)]
        refine hst j p ?_
        rw [own_lf, List.append_nil] at hD
        rw [hD]
        exact hp
      · have hlt : c < st.length := by rw [hsl]; omega
        rw [List.getElem?_set, if_pos rfl, if_pos hlt, own_ofN hn32]
    | succ r ih =>
      intro i ii ln D st hir hii hln hD hsl hst
      have hDl : (D.length : Int) ≤ own_c xs 0 n := by rw [← hPc, ← hD]; simp; omega
      obtain ⟨y, hy⟩ : ∃ y, xs[i]? = some y := ⟨_, List.getElem?_eq_getElem (show i < xs.length by omega)⟩
      refine go_iload e1_19 rfl ?_
      refine go_aloadN e1_21 rfl rfl ?_
      refine go_len e1_22 (get_app hq) (n := ((vsOf xs).length.toInt32)) rfl ?_
      refine go_icgeN e1_23 (tg := 51) (by decide) (by rw [hn32, hii]; omega) ?_
      refine go_aloadN e1_26 rfl rfl ?_
      refine go_iload e1_27 rfl ?_
      refine go_baload e1_29 (get_app hq) (k := i) hii (own_at hy) ?_
      refine go_bipush e1_30 (x := 10) rfl ?_
      refine go_icne e1_32 (tg := 45) (by decide) ?_ ?_
      · intro c32
        have hb0 := own_bno hy c32
        refine go_iinc_4 e1_45 (z := 1) rfl ?_
        refine go_goto e1_48 (tg := 19) (by decide) ?_
        first | exact ih (i + 1) (ii + 1) ln D st (by omega) (by rw [own_inc hii (by omega) (by omega)]; omega) hln (by rw [← hD, own_lf, if_neg (by omega)]) hsl hst | exact ih (i + 1) (ii + 1) (ln + 1) (D ++ [i + 1]) _ (by omega) (by rw [own_inc hii (by omega) (by omega)]; omega) (by rw [own_inc hln (by omega) (by omega), List.length_append]; simp) (by rw [← hD, own_lf, if_pos hb0]; simp) (by rw [List.length_set]; exact hsl) (own_st1 hst (own_ofN (by rw [own_inc hii (by omega) (by omega)]; omega)) (by rw [hsl]; omega))
      · intro c32
        have hb0 := own_byes hy c32
        have hPl : D.length + 1 ≤ (own_lf xs 0 n).length := by rw [← hD, own_lf, if_pos hb0]; simp
        refine go_aloadN e1_35 rfl rfl ?_
        refine go_iinc_3 e1_36 (z := 1) rfl ?_
        refine go_iloadN e1_39 rfl ?_
        refine go_iload e1_40 rfl ?_
        refine go_iconst e1_42 (x := 1) rfl ?_
        refine go_iadd e1_43 ?_
        refine go_iastore e1_44 get_last (k := D.length + 1) (by rw [own_inc hln (by omega) (by omega)]; omega) (by rw [hsl]; omega) ?_
        rw [own_setlast]
        refine go_iinc_4 e1_45 (z := 1) rfl ?_
        refine go_goto e1_48 (tg := 19) (by decide) ?_
        first | exact ih (i + 1) (ii + 1) ln D st (by omega) (by rw [own_inc hii (by omega) (by omega)]; omega) hln (by rw [← hD, own_lf, if_neg (by omega)]) hsl hst | exact ih (i + 1) (ii + 1) (ln + 1) (D ++ [i + 1]) _ (by omega) (by rw [own_inc hii (by omega) (by omega)]; omega) (by rw [own_inc hln (by omega) (by omega), List.length_append]; simp) (by rw [← hD, own_lf, if_pos hb0]; simp) (by rw [List.length_set]; exact hsl) (own_st1 hst (own_ofN (by rw [own_inc hii (by omega) (by omega)]; omega)) (by rw [hsl]; omega))
  exact loop n 0 0 0 [] _ (by omega) rfl rfl rfl (by simp) (fun j p hp => by
    have hj : j = 0 := by
      have := (List.getElem?_eq_some_iff.mp hp).1
      simp at this
      exact this
    subst hj
    simp at hp
    subst hp
    simp)
set_option maxRecDepth 65536 in
set_option maxHeartbeats 4000000 in
theorem law_met {l : Launch} {Z : State} {a0 : Array Value} {b : Nat} (hw : ∀ d ∈ tables_1, d.before a0 Z = true) (i0 i1 i2 : Int32) :
    Met l Z a0 b x code maxLocals ret room_1 [.int i0, .int i1, .int i2] [] (fun v _ => v = some (.int 1)) := by
  refine Met.of_go hw (plainFor_of_name pn_3) (L0 := [.val (.int i0), .val (.int i1), .val (.int i2), .unset, .unset, .unset, .unset, .unset, .unset]) rfl ?_
  intro p e s m args below meth c C
  refine go_iloadN e0_0 rfl ?_
  refine go_ldc e0_1 (wd 0 rfl) ?_
  refine go_iand e0_3 ?_
  refine go_iconst e0_4 (x := 5) rfl ?_
  refine go_irem e0_5 (by decide) ?_
  refine go_istoreX_3 e0_6 rfl ?_
  intro n hn
  have hcs : n = 0 ∨ n = 1 ∨ n = 2 ∨ n = 3 ∨ n = 4 := by
    have e2 := (c_irem (i0 &&& 2147483647) 5 5 (by decide)).1 (c_and _ _ (by decide)).1
    have e3 : n.toInt = 0 ∨ n.toInt = 1 ∨ n.toInt = 2 ∨ n.toInt = 3 ∨ n.toInt = 4 := by rw [hn]; omega
    rcases e3 with e | e | e | e | e
    · exact Or.inl (Int32.toInt_inj.mp e)
    · exact Or.inr (Or.inl (Int32.toInt_inj.mp e))
    · exact Or.inr (Or.inr (Or.inl (Int32.toInt_inj.mp e)))
    · exact Or.inr (Or.inr (Or.inr (Or.inl (Int32.toInt_inj.mp e))))
    · exact Or.inr (Or.inr (Or.inr (Or.inr (Int32.toInt_inj.mp e))))
  clear hn
  rcases hcs with rfl | rfl | rfl | rfl | rfl
  · refine go_iloadN e0_7 rfl ?_
    refine go_newarray e0_8 (wd 1 rfl) (k := 0) rfl (vs := []) rfl (cap := 0) (by decide) (by decide) (by decide) (by decide) ?_
    simp only [List.replicate_succ, List.replicate_zero, List.set_cons_zero, List.set_cons_succ, List.length_nil, List.length_cons, Nat.zero_add, Nat.reduceAdd, List.nil_append, List.cons_append]
    refine go_astore_4 e0_10 rfl rfl ?_
    refine go_iloadN e0_12 rfl ?_
    refine go_ifleY e0_13 (tg := 26) (by decide) (by decide) ?_
    refine go_iloadN e0_26 rfl ?_
    refine go_iconst e0_27 (x := 1) rfl ?_
    refine go_icleY e0_28 (tg := 41) (by decide) (by decide) ?_
    refine go_iloadN e0_41 rfl ?_
    refine go_iconst e0_42 (x := 2) rfl ?_
    refine go_icleY e0_43 (tg := 56) (by decide) (by decide) ?_
    refine go_iloadN e0_56 rfl ?_
    refine go_iconst e0_57 (x := 3) rfl ?_
    refine go_icleY e0_58 (tg := 71) (by decide) (by decide) ?_
    refine go_bipush e0_71 (x := 6) rfl ?_
    refine go_newarray e0_73 (wd 2 rfl) (k := 6) rfl (vs := [.int 0, .int 0, .int 0, .int 0, .int 0, .int 0]) rfl (cap := 6) (by decide) (by decide) (by decide) (by decide) ?_
    simp only [List.replicate_succ, List.replicate_zero, List.set_cons_zero, List.set_cons_succ, List.length_nil, List.length_cons, Nat.zero_add, Nat.reduceAdd, List.nil_append, List.cons_append]
    refine go_astore_5 e0_75 rfl rfl ?_
    refine go_aload e0_77 rfl rfl ?_
    refine go_iconst e0_79 (x := 0) rfl ?_
    refine go_iconst e0_80 (x := 0) rfl ?_
    refine go_iastore e0_81 rfl (k := 0) (by decide) (Nat.le_of_ble_eq_true rfl) ?_
    simp only [List.replicate_succ, List.replicate_zero, List.set_cons_zero, List.set_cons_succ, List.length_nil, List.length_cons, Nat.zero_add, Nat.reduceAdd, List.nil_append, List.cons_append]
    refine go_iconst e0_82 (x := 1) rfl ?_
    refine go_istore_6 e0_83 rfl ?_
    refine go_iloadN e0_85 rfl ?_
    refine go_ifleY e0_86 (tg := 107) (by decide) (by decide) ?_
    refine go_iloadN e0_107 rfl ?_
    refine go_iconst e0_108 (x := 1) rfl ?_
    refine go_icleY e0_109 (tg := 130) (by decide) (by decide) ?_
    refine go_iloadN e0_130 rfl ?_
    refine go_iconst e0_131 (x := 2) rfl ?_
    refine go_icleY e0_132 (tg := 153) (by decide) (by decide) ?_
    refine go_iloadN e0_153 rfl ?_
    refine go_iconst e0_154 (x := 3) rfl ?_
    refine go_icleY e0_155 (tg := 176) (by decide) (by decide) ?_
    refine go_iloadN e0_176 rfl ?_
    refine go_ifleY e0_177 (tg := 200) (by decide) (by decide) ?_
    refine go_aload e0_200 rfl rfl ?_
    refine go_static_1 e0_202 (wd 3 rfl) (wd 4 rfl) (wd 6 rfl) (wd 5 rfl) hy_6 pd_9 rfl (c_of hw (n := 0) (xs := []) rfl rfl (by decide)) rfl 0 rfl (by decide) (by decide) (by decide) (by decide) ?_
    rintro _ _ ⟨rfl, st, c0, rfl, hc, hsl, hst, hsc⟩
    obtain rfl : c0 = 0 := by
      simp [own_c, own_last] at hc
      omega
    have s0 : st[0]? = some (N2I 0) := hsc
    try simp only [List.replicate_succ, List.replicate_zero, List.set_cons_zero, List.set_cons_succ, List.length_nil, List.length_cons, Nat.zero_add, Nat.reduceAdd, List.nil_append, List.cons_append]
    refine go_astore_7 e0_205 rfl rfl ?_
    refine go_aload e0_207 rfl rfl ?_
    refine go_virtual_0 e0_209 (wd 22 rfl) (wd 23 rfl) (wd 25 rfl) (wd 24 rfl) (wd 26 rfl) (wd 5 rfl) hy_6 pd_10 rfl (c_data hw rfl) rfl rfl 0 rfl (by decide) (by decide) (by decide) (by decide) ?_
    rintro _ _ ⟨rfl, rfl⟩
    try simp only [List.replicate_succ, List.replicate_zero, List.set_cons_zero, List.set_cons_succ, List.length_nil, List.length_cons, Nat.zero_add, Nat.reduceAdd, List.nil_append, List.cons_append]
    refine go_aload e0_212 rfl rfl ?_
    refine go_acmp e0_214 rfl rfl (same := true) rfl (tg := 219) (by decide) ?_
    show Go C 219 _ _ _ _ _
    refine go_aload e0_219 rfl rfl ?_
    refine go_virtual_0 e0_221 (wd 27 rfl) (wd 28 rfl) (wd 30 rfl) (wd 29 rfl) (wd 31 rfl) (wd 5 rfl) hy_6 pd_11 rfl (c_cnt hw rfl rfl) rfl rfl 0 rfl (by decide) (by decide) (by decide) (by decide) ?_
    rintro _ _ ⟨rfl, rfl⟩
    try simp only [List.replicate_succ, List.replicate_zero, List.set_cons_zero, List.set_cons_succ, List.length_nil, List.length_cons, Nat.zero_add, Nat.reduceAdd, List.nil_append, List.cons_append]
    refine go_iload e0_224 rfl ?_
    refine go_iconst e0_226 (x := 1) rfl ?_
    refine go_isub e0_227 ?_
    refine go_iceqY e0_228 (tg := 233) (by decide) (by rw [hsl]; decide) ?_
    refine go_iconst e0_233 (x := 1) rfl ?_
    refine go_istore_8 e0_234 rfl ?_
    refine go_iconst e0_236 (x := 0) rfl ?_
    refine go_iload e0_237 rfl ?_
    refine go_icgeN e0_239 (tg := 267) (by decide) (by decide) ?_
    refine go_iload e0_242 rfl ?_
    refine go_ifeqN e0_244 (tg := 264) (by decide) (by decide) ?_
    refine go_aload e0_247 rfl rfl ?_
    refine go_iconst e0_249 (x := 0) rfl ?_
    refine go_virtual_1 e0_250 (wd 32 rfl) (wd 33 rfl) (wd 35 rfl) (wd 34 rfl) (wd 36 rfl) (wd 5 rfl) hy_6 pd_12 rfl (c_start hw (k := 0) rfl rfl (by decide) s0) rfl rfl 0 rfl (by decide) (by decide) (by decide) (by decide) ?_
    rintro _ _ ⟨rfl, rfl⟩
    try simp only [List.replicate_succ, List.replicate_zero, List.set_cons_zero, List.set_cons_succ, List.length_nil, List.length_cons, Nat.zero_add, Nat.reduceAdd, List.nil_append, List.cons_append]
    refine go_aload e0_253 rfl rfl ?_
    refine go_iconst e0_255 (x := 0) rfl ?_
    refine go_iaload e0_256 rfl (k := 0) (by decide) rfl ?_
    refine go_icneN e0_257 (tg := 264) (by decide) (by decide) ?_
    refine go_iconst e0_260 (x := 1) rfl ?_
    refine go_goto e0_261 (tg := 265) (by decide) ?_
    refine go_istore_8 e0_265 rfl ?_
    refine go_iconst e0_267 (x := 1) rfl ?_
    refine go_iload e0_268 rfl ?_
    refine go_icgeY e0_270 (tg := 298) (by decide) (by decide) ?_
    refine go_iconst e0_298 (x := 2) rfl ?_
    refine go_iload e0_299 rfl ?_
    refine go_icgeY e0_301 (tg := 329) (by decide) (by decide) ?_
    refine go_iconst e0_329 (x := 3) rfl ?_
    refine go_iload e0_330 rfl ?_
    refine go_icgeY e0_332 (tg := 360) (by decide) (by decide) ?_
    refine go_iconst e0_360 (x := 4) rfl ?_
    refine go_iload e0_361 rfl ?_
    refine go_icgeY e0_363 (tg := 391) (by decide) (by decide) ?_
    refine go_iload e0_391 rfl ?_
    refine go_zreturn e0_393 rfl (by decide) (by decide) (by decide) ?_
    exact rfl
  · refine go_iloadN e0_7 rfl ?_
    refine go_newarray e0_8 (wd 1 rfl) (k := 1) rfl (vs := [.int 0]) rfl (cap := 1) (by decide) (by decide) (by decide) (by decide) ?_
    simp only [List.replicate_succ, List.replicate_zero, List.set_cons_zero, List.set_cons_succ, List.length_nil, List.length_cons, Nat.zero_add, Nat.reduceAdd, List.nil_append, List.cons_append]
    refine go_astore_4 e0_10 rfl rfl ?_
    refine go_iloadN e0_12 rfl ?_
    refine go_ifleN e0_13 (tg := 26) (by decide) (by decide) ?_
    refine go_aload e0_16 rfl rfl ?_
    refine go_iconst e0_18 (x := 0) rfl ?_
    refine go_iloadN e0_19 rfl ?_
    refine go_iloadN e0_20 rfl ?_
    refine go_iconst e0_21 (x := 0) rfl ?_
    refine go_static_3 e0_22 (wd 37 rfl) (wd 38 rfl) (wd 40 rfl) (wd 39 rfl) hy_13 pd_14 rfl (c_pick hw) rfl 2 rfl (by decide) (by decide) (by decide) (by decide) ?_
    rintro _ _ ⟨x0, rfl, hx0, rfl⟩
    try simp only [List.replicate_succ, List.replicate_zero, List.set_cons_zero, List.set_cons_succ, List.length_nil, List.length_cons, Nat.zero_add, Nat.reduceAdd, List.nil_append, List.cons_append]
    refine go_bastore e0_25 rfl (k := 0) (by decide) (Nat.le_of_ble_eq_true rfl) ?_
    simp only [List.replicate_succ, List.replicate_zero, List.set_cons_zero, List.set_cons_succ, List.length_nil, List.length_cons, Nat.zero_add, Nat.reduceAdd, List.nil_append, List.cons_append]
    rw [hx0]
    refine go_iloadN e0_26 rfl ?_
    refine go_iconst e0_27 (x := 1) rfl ?_
    refine go_icleY e0_28 (tg := 41) (by decide) (by decide) ?_
    refine go_iloadN e0_41 rfl ?_
    refine go_iconst e0_42 (x := 2) rfl ?_
    refine go_icleY e0_43 (tg := 56) (by decide) (by decide) ?_
    refine go_iloadN e0_56 rfl ?_
    refine go_iconst e0_57 (x := 3) rfl ?_
    refine go_icleY e0_58 (tg := 71) (by decide) (by decide) ?_
    refine go_bipush e0_71 (x := 6) rfl ?_
    refine go_newarray e0_73 (wd 2 rfl) (k := 6) rfl (vs := [.int 0, .int 0, .int 0, .int 0, .int 0, .int 0]) rfl (cap := 6) (by decide) (by decide) (by decide) (by decide) ?_
    simp only [List.replicate_succ, List.replicate_zero, List.set_cons_zero, List.set_cons_succ, List.length_nil, List.length_cons, Nat.zero_add, Nat.reduceAdd, List.nil_append, List.cons_append]
    refine go_astore_5 e0_75 rfl rfl ?_
    refine go_aload e0_77 rfl rfl ?_
    refine go_iconst e0_79 (x := 0) rfl ?_
    refine go_iconst e0_80 (x := 0) rfl ?_
    refine go_iastore e0_81 rfl (k := 0) (by decide) (Nat.le_of_ble_eq_true rfl) ?_
    simp only [List.replicate_succ, List.replicate_zero, List.set_cons_zero, List.set_cons_succ, List.length_nil, List.length_cons, Nat.zero_add, Nat.reduceAdd, List.nil_append, List.cons_append]
    refine go_iconst e0_82 (x := 1) rfl ?_
    refine go_istore_6 e0_83 rfl ?_
    refine go_iloadN e0_85 rfl ?_
    refine go_ifleN e0_86 (tg := 107) (by decide) (by decide) ?_
    refine go_aload e0_89 rfl rfl ?_
    refine go_iconst e0_91 (x := 0) rfl ?_
    refine go_baload e0_92 rfl (k := 0) (by decide) rfl ?_
    refine go_bipush e0_93 (x := 10) rfl ?_
    refine go_icne e0_95 (tg := 107) (by decide) ?_ ?_
    · intro c95
      refine go_iloadN e0_107 rfl ?_
      refine go_iconst e0_108 (x := 1) rfl ?_
      refine go_icleY e0_109 (tg := 130) (by decide) (by decide) ?_
      refine go_iloadN e0_130 rfl ?_
      refine go_iconst e0_131 (x := 2) rfl ?_
      refine go_icleY e0_132 (tg := 153) (by decide) (by decide) ?_
      refine go_iloadN e0_153 rfl ?_
      refine go_iconst e0_154 (x := 3) rfl ?_
      refine go_icleY e0_155 (tg := 176) (by decide) (by decide) ?_
      refine go_iloadN e0_176 rfl ?_
      refine go_ifleN e0_177 (tg := 200) (by decide) (by decide) ?_
      refine go_aload e0_180 rfl rfl ?_
      refine go_iloadN e0_182 rfl ?_
      refine go_iconst e0_183 (x := 1) rfl ?_
      refine go_isub e0_184 ?_
      refine go_baload e0_185 rfl (k := 0) (by decide) rfl ?_
      refine go_bipush e0_186 (x := 10) rfl ?_
      refine go_iceqN e0_188 (tg := 200) (by decide) c95 ?_
      refine go_aload e0_191 rfl rfl ?_
      refine go_iload e0_193 rfl ?_
      refine go_iloadN e0_195 rfl ?_
      refine go_iastore e0_196 rfl (k := 1) (by decide) (Nat.le_of_ble_eq_true rfl) ?_
      simp only [List.replicate_succ, List.replicate_zero, List.set_cons_zero, List.set_cons_succ, List.length_nil, List.length_cons, Nat.zero_add, Nat.reduceAdd, List.nil_append, List.cons_append]
      refine go_iinc_6 e0_197 (z := 1) rfl ?_
      refine go_aload e0_200 rfl rfl ?_
      refine go_static_1 e0_202 (wd 3 rfl) (wd 4 rfl) (wd 6 rfl) (wd 5 rfl) hy_6 pd_9 rfl (c_of hw (n := 1) (xs := [x0]) rfl rfl (by decide)) rfl 0 rfl (by decide) (by decide) (by decide) (by decide) ?_
      rintro _ _ ⟨rfl, st, c0, rfl, hc, hsl, hst, hsc⟩
      have hb0 : own_b [x0] 0 = 0 := own_bno (rfl : ([x0] : List Int32)[0]? = some x0) c95
      obtain rfl : c0 = 1 := by
        simp [own_c, own_last, hb0] at hc
        omega
      have s0 : st[0]? = some (N2I 0) := hst 0 0 (by decide) (by simp [own_lf, hb0])
      have s1 : st[1]? = some (N2I 1) := hsc
      try simp only [List.replicate_succ, List.replicate_zero, List.set_cons_zero, List.set_cons_succ, List.length_nil, List.length_cons, Nat.zero_add, Nat.reduceAdd, List.nil_append, List.cons_append]
      refine go_astore_7 e0_205 rfl rfl ?_
      refine go_aload e0_207 rfl rfl ?_
      refine go_virtual_0 e0_209 (wd 22 rfl) (wd 23 rfl) (wd 25 rfl) (wd 24 rfl) (wd 26 rfl) (wd 5 rfl) hy_6 pd_10 rfl (c_data hw rfl) rfl rfl 0 rfl (by decide) (by decide) (by decide) (by decide) ?_
      rintro _ _ ⟨rfl, rfl⟩
      try simp only [List.replicate_succ, List.replicate_zero, List.set_cons_zero, List.set_cons_succ, List.length_nil, List.length_cons, Nat.zero_add, Nat.reduceAdd, List.nil_append, List.cons_append]
      refine go_aload e0_212 rfl rfl ?_
      refine go_acmp e0_214 rfl rfl (same := true) rfl (tg := 219) (by decide) ?_
      show Go C 219 _ _ _ _ _
      refine go_aload e0_219 rfl rfl ?_
      refine go_virtual_0 e0_221 (wd 27 rfl) (wd 28 rfl) (wd 30 rfl) (wd 29 rfl) (wd 31 rfl) (wd 5 rfl) hy_6 pd_11 rfl (c_cnt hw rfl rfl) rfl rfl 0 rfl (by decide) (by decide) (by decide) (by decide) ?_
      rintro _ _ ⟨rfl, rfl⟩
      try simp only [List.replicate_succ, List.replicate_zero, List.set_cons_zero, List.set_cons_succ, List.length_nil, List.length_cons, Nat.zero_add, Nat.reduceAdd, List.nil_append, List.cons_append]
      refine go_iload e0_224 rfl ?_
      refine go_iconst e0_226 (x := 1) rfl ?_
      refine go_isub e0_227 ?_
      refine go_iceqY e0_228 (tg := 233) (by decide) (by rw [hsl]; decide) ?_
      refine go_iconst e0_233 (x := 1) rfl ?_
      refine go_istore_8 e0_234 rfl ?_
      refine go_iconst e0_236 (x := 0) rfl ?_
      refine go_iload e0_237 rfl ?_
      refine go_icgeN e0_239 (tg := 267) (by decide) (by decide) ?_
      refine go_iload e0_242 rfl ?_
      refine go_ifeqN e0_244 (tg := 264) (by decide) (by decide) ?_
      refine go_aload e0_247 rfl rfl ?_
      refine go_iconst e0_249 (x := 0) rfl ?_
      refine go_virtual_1 e0_250 (wd 32 rfl) (wd 33 rfl) (wd 35 rfl) (wd 34 rfl) (wd 36 rfl) (wd 5 rfl) hy_6 pd_12 rfl (c_start hw (k := 0) rfl rfl (by decide) s0) rfl rfl 0 rfl (by decide) (by decide) (by decide) (by decide) ?_
      rintro _ _ ⟨rfl, rfl⟩
      try simp only [List.replicate_succ, List.replicate_zero, List.set_cons_zero, List.set_cons_succ, List.length_nil, List.length_cons, Nat.zero_add, Nat.reduceAdd, List.nil_append, List.cons_append]
      refine go_aload e0_253 rfl rfl ?_
      refine go_iconst e0_255 (x := 0) rfl ?_
      refine go_iaload e0_256 rfl (k := 0) (by decide) rfl ?_
      refine go_icneN e0_257 (tg := 264) (by decide) (by decide) ?_
      refine go_iconst e0_260 (x := 1) rfl ?_
      refine go_goto e0_261 (tg := 265) (by decide) ?_
      refine go_istore_8 e0_265 rfl ?_
      refine go_iconst e0_267 (x := 1) rfl ?_
      refine go_iload e0_268 rfl ?_
      refine go_icgeN e0_270 (tg := 298) (by decide) (by decide) ?_
      refine go_iload e0_273 rfl ?_
      refine go_ifeqN e0_275 (tg := 295) (by decide) (by decide) ?_
      refine go_aload e0_278 rfl rfl ?_
      refine go_iconst e0_280 (x := 1) rfl ?_
      refine go_virtual_1 e0_281 (wd 32 rfl) (wd 33 rfl) (wd 35 rfl) (wd 34 rfl) (wd 36 rfl) (wd 5 rfl) hy_6 pd_12 rfl (c_start hw (k := 1) rfl rfl (by decide) s1) rfl rfl 0 rfl (by decide) (by decide) (by decide) (by decide) ?_
      rintro _ _ ⟨rfl, rfl⟩
      try simp only [List.replicate_succ, List.replicate_zero, List.set_cons_zero, List.set_cons_succ, List.length_nil, List.length_cons, Nat.zero_add, Nat.reduceAdd, List.nil_append, List.cons_append]
      refine go_aload e0_284 rfl rfl ?_
      refine go_iconst e0_286 (x := 1) rfl ?_
      refine go_iaload e0_287 rfl (k := 1) (by decide) rfl ?_
      refine go_icneN e0_288 (tg := 295) (by decide) (by decide) ?_
      refine go_iconst e0_291 (x := 1) rfl ?_
      refine go_goto e0_292 (tg := 296) (by decide) ?_
      refine go_istore_8 e0_296 rfl ?_
      refine go_iconst e0_298 (x := 2) rfl ?_
      refine go_iload e0_299 rfl ?_
      refine go_icgeY e0_301 (tg := 329) (by decide) (by decide) ?_
      refine go_iconst e0_329 (x := 3) rfl ?_
      refine go_iload e0_330 rfl ?_
      refine go_icgeY e0_332 (tg := 360) (by decide) (by decide) ?_
      refine go_iconst e0_360 (x := 4) rfl ?_
      refine go_iload e0_361 rfl ?_
      refine go_icgeY e0_363 (tg := 391) (by decide) (by decide) ?_
      refine go_iload e0_391 rfl ?_
      refine go_zreturn e0_393 rfl (by decide) (by decide) (by decide) ?_
      exact rfl
    · intro c95
      refine go_aload e0_98 rfl rfl ?_
      refine go_iload e0_100 rfl ?_
      refine go_iconst e0_102 (x := 1) rfl ?_
      refine go_iastore e0_103 rfl (k := 1) (by decide) (Nat.le_of_ble_eq_true rfl) ?_
      simp only [List.replicate_succ, List.replicate_zero, List.set_cons_zero, List.set_cons_succ, List.length_nil, List.length_cons, Nat.zero_add, Nat.reduceAdd, List.nil_append, List.cons_append]
      refine go_iinc_6 e0_104 (z := 1) rfl ?_
      refine go_iloadN e0_107 rfl ?_
      refine go_iconst e0_108 (x := 1) rfl ?_
      refine go_icleY e0_109 (tg := 130) (by decide) (by decide) ?_
      refine go_iloadN e0_130 rfl ?_
      refine go_iconst e0_131 (x := 2) rfl ?_
      refine go_icleY e0_132 (tg := 153) (by decide) (by decide) ?_
      refine go_iloadN e0_153 rfl ?_
      refine go_iconst e0_154 (x := 3) rfl ?_
      refine go_icleY e0_155 (tg := 176) (by decide) (by decide) ?_
      refine go_iloadN e0_176 rfl ?_
      refine go_ifleN e0_177 (tg := 200) (by decide) (by decide) ?_
      refine go_aload e0_180 rfl rfl ?_
      refine go_iloadN e0_182 rfl ?_
      refine go_iconst e0_183 (x := 1) rfl ?_
      refine go_isub e0_184 ?_
      refine go_baload e0_185 rfl (k := 0) (by decide) rfl ?_
      refine go_bipush e0_186 (x := 10) rfl ?_
      refine go_iceqY e0_188 (tg := 200) (by decide) c95 ?_
      refine go_aload e0_200 rfl rfl ?_
      refine go_static_1 e0_202 (wd 3 rfl) (wd 4 rfl) (wd 6 rfl) (wd 5 rfl) hy_6 pd_9 rfl (c_of hw (n := 1) (xs := [x0]) rfl rfl (by decide)) rfl 0 rfl (by decide) (by decide) (by decide) (by decide) ?_
      rintro _ _ ⟨rfl, st, c0, rfl, hc, hsl, hst, hsc⟩
      have hb0 : own_b [x0] 0 = 1 := own_byes (rfl : ([x0] : List Int32)[0]? = some x0) c95
      obtain rfl : c0 = 1 := by
        simp [own_c, own_last, hb0] at hc
        omega
      have s0 : st[0]? = some (N2I 0) := hst 0 0 (by decide) (by simp [own_lf, hb0])
      have s1 : st[1]? = some (N2I 1) := hsc
      try simp only [List.replicate_succ, List.replicate_zero, List.set_cons_zero, List.set_cons_succ, List.length_nil, List.length_cons, Nat.zero_add, Nat.reduceAdd, List.nil_append, List.cons_append]
      refine go_astore_7 e0_205 rfl rfl ?_
      refine go_aload e0_207 rfl rfl ?_
      refine go_virtual_0 e0_209 (wd 22 rfl) (wd 23 rfl) (wd 25 rfl) (wd 24 rfl) (wd 26 rfl) (wd 5 rfl) hy_6 pd_10 rfl (c_data hw rfl) rfl rfl 0 rfl (by decide) (by decide) (by decide) (by decide) ?_
      rintro _ _ ⟨rfl, rfl⟩
      try simp only [List.replicate_succ, List.replicate_zero, List.set_cons_zero, List.set_cons_succ, List.length_nil, List.length_cons, Nat.zero_add, Nat.reduceAdd, List.nil_append, List.cons_append]
      refine go_aload e0_212 rfl rfl ?_
      refine go_acmp e0_214 rfl rfl (same := true) rfl (tg := 219) (by decide) ?_
      show Go C 219 _ _ _ _ _
      refine go_aload e0_219 rfl rfl ?_
      refine go_virtual_0 e0_221 (wd 27 rfl) (wd 28 rfl) (wd 30 rfl) (wd 29 rfl) (wd 31 rfl) (wd 5 rfl) hy_6 pd_11 rfl (c_cnt hw rfl rfl) rfl rfl 0 rfl (by decide) (by decide) (by decide) (by decide) ?_
      rintro _ _ ⟨rfl, rfl⟩
      try simp only [List.replicate_succ, List.replicate_zero, List.set_cons_zero, List.set_cons_succ, List.length_nil, List.length_cons, Nat.zero_add, Nat.reduceAdd, List.nil_append, List.cons_append]
      refine go_iload e0_224 rfl ?_
      refine go_iconst e0_226 (x := 1) rfl ?_
      refine go_isub e0_227 ?_
      refine go_iceqY e0_228 (tg := 233) (by decide) (by rw [hsl]; decide) ?_
      refine go_iconst e0_233 (x := 1) rfl ?_
      refine go_istore_8 e0_234 rfl ?_
      refine go_iconst e0_236 (x := 0) rfl ?_
      refine go_iload e0_237 rfl ?_
      refine go_icgeN e0_239 (tg := 267) (by decide) (by decide) ?_
      refine go_iload e0_242 rfl ?_
      refine go_ifeqN e0_244 (tg := 264) (by decide) (by decide) ?_
      refine go_aload e0_247 rfl rfl ?_
      refine go_iconst e0_249 (x := 0) rfl ?_
      refine go_virtual_1 e0_250 (wd 32 rfl) (wd 33 rfl) (wd 35 rfl) (wd 34 rfl) (wd 36 rfl) (wd 5 rfl) hy_6 pd_12 rfl (c_start hw (k := 0) rfl rfl (by decide) s0) rfl rfl 0 rfl (by decide) (by decide) (by decide) (by decide) ?_
      rintro _ _ ⟨rfl, rfl⟩
      try simp only [List.replicate_succ, List.replicate_zero, List.set_cons_zero, List.set_cons_succ, List.length_nil, List.length_cons, Nat.zero_add, Nat.reduceAdd, List.nil_append, List.cons_append]
      refine go_aload e0_253 rfl rfl ?_
      refine go_iconst e0_255 (x := 0) rfl ?_
      refine go_iaload e0_256 rfl (k := 0) (by decide) rfl ?_
      refine go_icneN e0_257 (tg := 264) (by decide) (by decide) ?_
      refine go_iconst e0_260 (x := 1) rfl ?_
      refine go_goto e0_261 (tg := 265) (by decide) ?_
      refine go_istore_8 e0_265 rfl ?_
      refine go_iconst e0_267 (x := 1) rfl ?_
      refine go_iload e0_268 rfl ?_
      refine go_icgeN e0_270 (tg := 298) (by decide) (by decide) ?_
      refine go_iload e0_273 rfl ?_
      refine go_ifeqN e0_275 (tg := 295) (by decide) (by decide) ?_
      refine go_aload e0_278 rfl rfl ?_
      refine go_iconst e0_280 (x := 1) rfl ?_
      refine go_virtual_1 e0_281 (wd 32 rfl) (wd 33 rfl) (wd 35 rfl) (wd 34 rfl) (wd 36 rfl) (wd 5 rfl) hy_6 pd_12 rfl (c_start hw (k := 1) rfl rfl (by decide) s1) rfl rfl 0 rfl (by decide) (by decide) (by decide) (by decide) ?_
      rintro _ _ ⟨rfl, rfl⟩
      try simp only [List.replicate_succ, List.replicate_zero, List.set_cons_zero, List.set_cons_succ, List.length_nil, List.length_cons, Nat.zero_add, Nat.reduceAdd, List.nil_append, List.cons_append]
      refine go_aload e0_284 rfl rfl ?_
      refine go_iconst e0_286 (x := 1) rfl ?_
      refine go_iaload e0_287 rfl (k := 1) (by decide) rfl ?_
      refine go_icneN e0_288 (tg := 295) (by decide) (by decide) ?_
      refine go_iconst e0_291 (x := 1) rfl ?_
      refine go_goto e0_292 (tg := 296) (by decide) ?_
      refine go_istore_8 e0_296 rfl ?_
      refine go_iconst e0_298 (x := 2) rfl ?_
      refine go_iload e0_299 rfl ?_
      refine go_icgeY e0_301 (tg := 329) (by decide) (by decide) ?_
      refine go_iconst e0_329 (x := 3) rfl ?_
      refine go_iload e0_330 rfl ?_
      refine go_icgeY e0_332 (tg := 360) (by decide) (by decide) ?_
      refine go_iconst e0_360 (x := 4) rfl ?_
      refine go_iload e0_361 rfl ?_
      refine go_icgeY e0_363 (tg := 391) (by decide) (by decide) ?_
      refine go_iload e0_391 rfl ?_
      refine go_zreturn e0_393 rfl (by decide) (by decide) (by decide) ?_
      exact rfl
  · refine go_iloadN e0_7 rfl ?_
    refine go_newarray e0_8 (wd 1 rfl) (k := 2) rfl (vs := [.int 0, .int 0]) rfl (cap := 2) (by decide) (by decide) (by decide) (by decide) ?_
    simp only [List.replicate_succ, List.replicate_zero, List.set_cons_zero, List.set_cons_succ, List.length_nil, List.length_cons, Nat.zero_add, Nat.reduceAdd, List.nil_append, List.cons_append]
    refine go_astore_4 e0_10 rfl rfl ?_
    refine go_iloadN e0_12 rfl ?_
    refine go_ifleN e0_13 (tg := 26) (by decide) (by decide) ?_
    refine go_aload e0_16 rfl rfl ?_
    refine go_iconst e0_18 (x := 0) rfl ?_
    refine go_iloadN e0_19 rfl ?_
    refine go_iloadN e0_20 rfl ?_
    refine go_iconst e0_21 (x := 0) rfl ?_
    refine go_static_3 e0_22 (wd 37 rfl) (wd 38 rfl) (wd 40 rfl) (wd 39 rfl) hy_13 pd_14 rfl (c_pick hw) rfl 2 rfl (by decide) (by decide) (by decide) (by decide) ?_
    rintro _ _ ⟨x0, rfl, hx0, rfl⟩
    try simp only [List.replicate_succ, List.replicate_zero, List.set_cons_zero, List.set_cons_succ, List.length_nil, List.length_cons, Nat.zero_add, Nat.reduceAdd, List.nil_append, List.cons_append]
    refine go_bastore e0_25 rfl (k := 0) (by decide) (Nat.le_of_ble_eq_true rfl) ?_
    simp only [List.replicate_succ, List.replicate_zero, List.set_cons_zero, List.set_cons_succ, List.length_nil, List.length_cons, Nat.zero_add, Nat.reduceAdd, List.nil_append, List.cons_append]
    rw [hx0]
    refine go_iloadN e0_26 rfl ?_
    refine go_iconst e0_27 (x := 1) rfl ?_
    refine go_icleN e0_28 (tg := 41) (by decide) (by decide) ?_
    refine go_aload e0_31 rfl rfl ?_
    refine go_iconst e0_33 (x := 1) rfl ?_
    refine go_iloadN e0_34 rfl ?_
    refine go_iloadN e0_35 rfl ?_
    refine go_iconst e0_36 (x := 1) rfl ?_
    refine go_static_3 e0_37 (wd 37 rfl) (wd 38 rfl) (wd 40 rfl) (wd 39 rfl) hy_13 pd_14 rfl (c_pick hw) rfl 2 rfl (by decide) (by decide) (by decide) (by decide) ?_
    rintro _ _ ⟨x1, rfl, hx1, rfl⟩
    try simp only [List.replicate_succ, List.replicate_zero, List.set_cons_zero, List.set_cons_succ, List.length_nil, List.length_cons, Nat.zero_add, Nat.reduceAdd, List.nil_append, List.cons_append]
    refine go_bastore e0_40 rfl (k := 1) (by decide) (Nat.le_of_ble_eq_true rfl) ?_
    simp only [List.replicate_succ, List.replicate_zero, List.set_cons_zero, List.set_cons_succ, List.length_nil, List.length_cons, Nat.zero_add, Nat.reduceAdd, List.nil_append, List.cons_append]
    rw [hx1]
    refine go_iloadN e0_41 rfl ?_
    refine go_iconst e0_42 (x := 2) rfl ?_
    refine go_icleY e0_43 (tg := 56) (by decide) (by decide) ?_
    refine go_iloadN e0_56 rfl ?_
    refine go_iconst e0_57 (x := 3) rfl ?_
    refine go_icleY e0_58 (tg := 71) (by decide) (by decide) ?_
    refine go_bipush e0_71 (x := 6) rfl ?_
    refine go_newarray e0_73 (wd 2 rfl) (k := 6) rfl (vs := [.int 0, .int 0, .int 0, .int 0, .int 0, .int 0]) rfl (cap := 6) (by decide) (by decide) (by decide) (by decide) ?_
    simp only [List.replicate_succ, List.replicate_zero, List.set_cons_zero, List.set_cons_succ, List.length_nil, List.length_cons, Nat.zero_add, Nat.reduceAdd, List.nil_append, List.cons_append]
    refine go_astore_5 e0_75 rfl rfl ?_
    refine go_aload e0_77 rfl rfl ?_
    refine go_iconst e0_79 (x := 0) rfl ?_
    refine go_iconst e0_80 (x := 0) rfl ?_
    refine go_iastore e0_81 rfl (k := 0) (by decide) (Nat.le_of_ble_eq_true rfl) ?_
    simp only [List.replicate_succ, List.replicate_zero, List.set_cons_zero, List.set_cons_succ, List.length_nil, List.length_cons, Nat.zero_add, Nat.reduceAdd, List.nil_append, List.cons_append]
    refine go_iconst e0_82 (x := 1) rfl ?_
    refine go_istore_6 e0_83 rfl ?_
    refine go_iloadN e0_85 rfl ?_
    refine go_ifleN e0_86 (tg := 107) (by decide) (by decide) ?_
    refine go_aload e0_89 rfl rfl ?_
    refine go_iconst e0_91 (x := 0) rfl ?_
    refine go_baload e0_92 rfl (k := 0) (by decide) rfl ?_
    refine go_bipush e0_93 (x := 10) rfl ?_
    refine go_icne e0_95 (tg := 107) (by decide) ?_ ?_
    · intro c95
      refine go_iloadN e0_107 rfl ?_
      refine go_iconst e0_108 (x := 1) rfl ?_
      refine go_icleN e0_109 (tg := 130) (by decide) (by decide) ?_
      refine go_aload e0_112 rfl rfl ?_
      refine go_iconst e0_114 (x := 1) rfl ?_
      refine go_baload e0_115 rfl (k := 1) (by decide) rfl ?_
      refine go_bipush e0_116 (x := 10) rfl ?_
      refine go_icne e0_118 (tg := 130) (by decide) ?_ ?_
      · intro c118
        refine go_iloadN e0_130 rfl ?_
        refine go_iconst e0_131 (x := 2) rfl ?_
        refine go_icleY e0_132 (tg := 153) (by decide) (by decide) ?_
        refine go_iloadN e0_153 rfl ?_
        refine go_iconst e0_154 (x := 3) rfl ?_
        refine go_icleY e0_155 (tg := 176) (by decide) (by decide) ?_
        refine go_iloadN e0_176 rfl ?_
        refine go_ifleN e0_177 (tg := 200) (by decide) (by decide) ?_
        refine go_aload e0_180 rfl rfl ?_
        refine go_iloadN e0_182 rfl ?_
        refine go_iconst e0_183 (x := 1) rfl ?_
        refine go_isub e0_184 ?_
        refine go_baload e0_185 rfl (k := 1) (by decide) rfl ?_
        refine go_bipush e0_186 (x := 10) rfl ?_
        refine go_iceqN e0_188 (tg := 200) (by decide) c118 ?_
        refine go_aload e0_191 rfl rfl ?_
        refine go_iload e0_193 rfl ?_
        refine go_iloadN e0_195 rfl ?_
        refine go_iastore e0_196 rfl (k := 1) (by decide) (Nat.le_of_ble_eq_true rfl) ?_
        simp only [List.replicate_succ, List.replicate_zero, List.set_cons_zero, List.set_cons_succ, List.length_nil, List.length_cons, Nat.zero_add, Nat.reduceAdd, List.nil_append, List.cons_append]
        refine go_iinc_6 e0_197 (z := 1) rfl ?_
        refine go_aload e0_200 rfl rfl ?_
        refine go_static_1 e0_202 (wd 3 rfl) (wd 4 rfl) (wd 6 rfl) (wd 5 rfl) hy_6 pd_9 rfl (c_of hw (n := 2) (xs := [x0, x1]) rfl rfl (by decide)) rfl 0 rfl (by decide) (by decide) (by decide) (by decide) ?_
        rintro _ _ ⟨rfl, st, c0, rfl, hc, hsl, hst, hsc⟩
        have hb0 : own_b [x0, x1] 0 = 0 := own_bno (rfl : ([x0, x1] : List Int32)[0]? = some x0) c95
        have hb1 : own_b [x0, x1] 1 = 0 := own_bno (rfl : ([x0, x1] : List Int32)[1]? = some x1) c118
        obtain rfl : c0 = 1 := by
          simp [own_c, own_last, hb0, hb1] at hc
          omega
        have s0 : st[0]? = some (N2I 0) := hst 0 0 (by decide) (by simp [own_lf, hb0, hb1])
        have s1 : st[1]? = some (N2I 2) := hsc
        try simp only [List.replicate_succ, List.replicate_zero, List.set_cons_zero, List.set_cons_succ, List.length_nil, List.length_cons, Nat.zero_add, Nat.reduceAdd, List.nil_append, List.cons_append]
        refine go_astore_7 e0_205 rfl rfl ?_
        refine go_aload e0_207 rfl rfl ?_
        refine go_virtual_0 e0_209 (wd 22 rfl) (wd 23 rfl) (wd 25 rfl) (wd 24 rfl) (wd 26 rfl) (wd 5 rfl) hy_6 pd_10 rfl (c_data hw rfl) rfl rfl 0 rfl (by decide) (by decide) (by decide) (by decide) ?_
        rintro _ _ ⟨rfl, rfl⟩
        try simp only [List.replicate_succ, List.replicate_zero, List.set_cons_zero, List.set_cons_succ, List.length_nil, List.length_cons, Nat.zero_add, Nat.reduceAdd, List.nil_append, List.cons_append]
        refine go_aload e0_212 rfl rfl ?_
        refine go_acmp e0_214 rfl rfl (same := true) rfl (tg := 219) (by decide) ?_
        show Go C 219 _ _ _ _ _
        refine go_aload e0_219 rfl rfl ?_
        refine go_virtual_0 e0_221 (wd 27 rfl) (wd 28 rfl) (wd 30 rfl) (wd 29 rfl) (wd 31 rfl) (wd 5 rfl) hy_6 pd_11 rfl (c_cnt hw rfl rfl) rfl rfl 0 rfl (by decide) (by decide) (by decide) (by decide) ?_
        rintro _ _ ⟨rfl, rfl⟩
        try simp only [List.replicate_succ, List.replicate_zero, List.set_cons_zero, List.set_cons_succ, List.length_nil, List.length_cons, Nat.zero_add, Nat.reduceAdd, List.nil_append, List.cons_append]
        refine go_iload e0_224 rfl ?_
        refine go_iconst e0_226 (x := 1) rfl ?_
        refine go_isub e0_227 ?_
        refine go_iceqY e0_228 (tg := 233) (by decide) (by rw [hsl]; decide) ?_
        refine go_iconst e0_233 (x := 1) rfl ?_
        refine go_istore_8 e0_234 rfl ?_
        refine go_iconst e0_236 (x := 0) rfl ?_
        refine go_iload e0_237 rfl ?_
        refine go_icgeN e0_239 (tg := 267) (by decide) (by decide) ?_
        refine go_iload e0_242 rfl ?_
        refine go_ifeqN e0_244 (tg := 264) (by decide) (by decide) ?_
        refine go_aload e0_247 rfl rfl ?_
        refine go_iconst e0_249 (x := 0) rfl ?_
        refine go_virtual_1 e0_250 (wd 32 rfl) (wd 33 rfl) (wd 35 rfl) (wd 34 rfl) (wd 36 rfl) (wd 5 rfl) hy_6 pd_12 rfl (c_start hw (k := 0) rfl rfl (by decide) s0) rfl rfl 0 rfl (by decide) (by decide) (by decide) (by decide) ?_
        rintro _ _ ⟨rfl, rfl⟩
        try simp only [List.replicate_succ, List.replicate_zero, List.set_cons_zero, List.set_cons_succ, List.length_nil, List.length_cons, Nat.zero_add, Nat.reduceAdd, List.nil_append, List.cons_append]
        refine go_aload e0_253 rfl rfl ?_
        refine go_iconst e0_255 (x := 0) rfl ?_
        refine go_iaload e0_256 rfl (k := 0) (by decide) rfl ?_
        refine go_icneN e0_257 (tg := 264) (by decide) (by decide) ?_
        refine go_iconst e0_260 (x := 1) rfl ?_
        refine go_goto e0_261 (tg := 265) (by decide) ?_
        refine go_istore_8 e0_265 rfl ?_
        refine go_iconst e0_267 (x := 1) rfl ?_
        refine go_iload e0_268 rfl ?_
        refine go_icgeN e0_270 (tg := 298) (by decide) (by decide) ?_
        refine go_iload e0_273 rfl ?_
        refine go_ifeqN e0_275 (tg := 295) (by decide) (by decide) ?_
        refine go_aload e0_278 rfl rfl ?_
        refine go_iconst e0_280 (x := 1) rfl ?_
        refine go_virtual_1 e0_281 (wd 32 rfl) (wd 33 rfl) (wd 35 rfl) (wd 34 rfl) (wd 36 rfl) (wd 5 rfl) hy_6 pd_12 rfl (c_start hw (k := 1) rfl rfl (by decide) s1) rfl rfl 0 rfl (by decide) (by decide) (by decide) (by decide) ?_
        rintro _ _ ⟨rfl, rfl⟩
        try simp only [List.replicate_succ, List.replicate_zero, List.set_cons_zero, List.set_cons_succ, List.length_nil, List.length_cons, Nat.zero_add, Nat.reduceAdd, List.nil_append, List.cons_append]
        refine go_aload e0_284 rfl rfl ?_
        refine go_iconst e0_286 (x := 1) rfl ?_
        refine go_iaload e0_287 rfl (k := 1) (by decide) rfl ?_
        refine go_icneN e0_288 (tg := 295) (by decide) (by decide) ?_
        refine go_iconst e0_291 (x := 1) rfl ?_
        refine go_goto e0_292 (tg := 296) (by decide) ?_
        refine go_istore_8 e0_296 rfl ?_
        refine go_iconst e0_298 (x := 2) rfl ?_
        refine go_iload e0_299 rfl ?_
        refine go_icgeY e0_301 (tg := 329) (by decide) (by decide) ?_
        refine go_iconst e0_329 (x := 3) rfl ?_
        refine go_iload e0_330 rfl ?_
        refine go_icgeY e0_332 (tg := 360) (by decide) (by decide) ?_
        refine go_iconst e0_360 (x := 4) rfl ?_
        refine go_iload e0_361 rfl ?_
        refine go_icgeY e0_363 (tg := 391) (by decide) (by decide) ?_
        refine go_iload e0_391 rfl ?_
        refine go_zreturn e0_393 rfl (by decide) (by decide) (by decide) ?_
        exact rfl
      · intro c118
        refine go_aload e0_121 rfl rfl ?_
        refine go_iload e0_123 rfl ?_
        refine go_iconst e0_125 (x := 2) rfl ?_
        refine go_iastore e0_126 rfl (k := 1) (by decide) (Nat.le_of_ble_eq_true rfl) ?_
        simp only [List.replicate_succ, List.replicate_zero, List.set_cons_zero, List.set_cons_succ, List.length_nil, List.length_cons, Nat.zero_add, Nat.reduceAdd, List.nil_append, List.cons_append]
        refine go_iinc_6 e0_127 (z := 1) rfl ?_
        refine go_iloadN e0_130 rfl ?_
        refine go_iconst e0_131 (x := 2) rfl ?_
        refine go_icleY e0_132 (tg := 153) (by decide) (by decide) ?_
        refine go_iloadN e0_153 rfl ?_
        refine go_iconst e0_154 (x := 3) rfl ?_
        refine go_icleY e0_155 (tg := 176) (by decide) (by decide) ?_
        refine go_iloadN e0_176 rfl ?_
        refine go_ifleN e0_177 (tg := 200) (by decide) (by decide) ?_
        refine go_aload e0_180 rfl rfl ?_
        refine go_iloadN e0_182 rfl ?_
        refine go_iconst e0_183 (x := 1) rfl ?_
        refine go_isub e0_184 ?_
        refine go_baload e0_185 rfl (k := 1) (by decide) rfl ?_
        refine go_bipush e0_186 (x := 10) rfl ?_
        refine go_iceqY e0_188 (tg := 200) (by decide) c118 ?_
        refine go_aload e0_200 rfl rfl ?_
        refine go_static_1 e0_202 (wd 3 rfl) (wd 4 rfl) (wd 6 rfl) (wd 5 rfl) hy_6 pd_9 rfl (c_of hw (n := 2) (xs := [x0, x1]) rfl rfl (by decide)) rfl 0 rfl (by decide) (by decide) (by decide) (by decide) ?_
        rintro _ _ ⟨rfl, st, c0, rfl, hc, hsl, hst, hsc⟩
        have hb0 : own_b [x0, x1] 0 = 0 := own_bno (rfl : ([x0, x1] : List Int32)[0]? = some x0) c95
        have hb1 : own_b [x0, x1] 1 = 1 := own_byes (rfl : ([x0, x1] : List Int32)[1]? = some x1) c118
        obtain rfl : c0 = 1 := by
          simp [own_c, own_last, hb0, hb1] at hc
          omega
        have s0 : st[0]? = some (N2I 0) := hst 0 0 (by decide) (by simp [own_lf, hb0, hb1])
        have s1 : st[1]? = some (N2I 2) := hsc
        try simp only [List.replicate_succ, List.replicate_zero, List.set_cons_zero, List.set_cons_succ, List.length_nil, List.length_cons, Nat.zero_add, Nat.reduceAdd, List.nil_append, List.cons_append]
        refine go_astore_7 e0_205 rfl rfl ?_
        refine go_aload e0_207 rfl rfl ?_
        refine go_virtual_0 e0_209 (wd 22 rfl) (wd 23 rfl) (wd 25 rfl) (wd 24 rfl) (wd 26 rfl) (wd 5 rfl) hy_6 pd_10 rfl (c_data hw rfl) rfl rfl 0 rfl (by decide) (by decide) (by decide) (by decide) ?_
        rintro _ _ ⟨rfl, rfl⟩
        try simp only [List.replicate_succ, List.replicate_zero, List.set_cons_zero, List.set_cons_succ, List.length_nil, List.length_cons, Nat.zero_add, Nat.reduceAdd, List.nil_append, List.cons_append]
        refine go_aload e0_212 rfl rfl ?_
        refine go_acmp e0_214 rfl rfl (same := true) rfl (tg := 219) (by decide) ?_
        show Go C 219 _ _ _ _ _
        refine go_aload e0_219 rfl rfl ?_
        refine go_virtual_0 e0_221 (wd 27 rfl) (wd 28 rfl) (wd 30 rfl) (wd 29 rfl) (wd 31 rfl) (wd 5 rfl) hy_6 pd_11 rfl (c_cnt hw rfl rfl) rfl rfl 0 rfl (by decide) (by decide) (by decide) (by decide) ?_
        rintro _ _ ⟨rfl, rfl⟩
        try simp only [List.replicate_succ, List.replicate_zero, List.set_cons_zero, List.set_cons_succ, List.length_nil, List.length_cons, Nat.zero_add, Nat.reduceAdd, List.nil_append, List.cons_append]
        refine go_iload e0_224 rfl ?_
        refine go_iconst e0_226 (x := 1) rfl ?_
        refine go_isub e0_227 ?_
        refine go_iceqY e0_228 (tg := 233) (by decide) (by rw [hsl]; decide) ?_
        refine go_iconst e0_233 (x := 1) rfl ?_
        refine go_istore_8 e0_234 rfl ?_
        refine go_iconst e0_236 (x := 0) rfl ?_
        refine go_iload e0_237 rfl ?_
        refine go_icgeN e0_239 (tg := 267) (by decide) (by decide) ?_
        refine go_iload e0_242 rfl ?_
        refine go_ifeqN e0_244 (tg := 264) (by decide) (by decide) ?_
        refine go_aload e0_247 rfl rfl ?_
        refine go_iconst e0_249 (x := 0) rfl ?_
        refine go_virtual_1 e0_250 (wd 32 rfl) (wd 33 rfl) (wd 35 rfl) (wd 34 rfl) (wd 36 rfl) (wd 5 rfl) hy_6 pd_12 rfl (c_start hw (k := 0) rfl rfl (by decide) s0) rfl rfl 0 rfl (by decide) (by decide) (by decide) (by decide) ?_
        rintro _ _ ⟨rfl, rfl⟩
        try simp only [List.replicate_succ, List.replicate_zero, List.set_cons_zero, List.set_cons_succ, List.length_nil, List.length_cons, Nat.zero_add, Nat.reduceAdd, List.nil_append, List.cons_append]
        refine go_aload e0_253 rfl rfl ?_
        refine go_iconst e0_255 (x := 0) rfl ?_
        refine go_iaload e0_256 rfl (k := 0) (by decide) rfl ?_
        refine go_icneN e0_257 (tg := 264) (by decide) (by decide) ?_
        refine go_iconst e0_260 (x := 1) rfl ?_
        refine go_goto e0_261 (tg := 265) (by decide) ?_
        refine go_istore_8 e0_265 rfl ?_
        refine go_iconst e0_267 (x := 1) rfl ?_
        refine go_iload e0_268 rfl ?_
        refine go_icgeN e0_270 (tg := 298) (by decide) (by decide) ?_
        refine go_iload e0_273 rfl ?_
        refine go_ifeqN e0_275 (tg := 295) (by decide) (by decide) ?_
        refine go_aload e0_278 rfl rfl ?_
        refine go_iconst e0_280 (x := 1) rfl ?_
        refine go_virtual_1 e0_281 (wd 32 rfl) (wd 33 rfl) (wd 35 rfl) (wd 34 rfl) (wd 36 rfl) (wd 5 rfl) hy_6 pd_12 rfl (c_start hw (k := 1) rfl rfl (by decide) s1) rfl rfl 0 rfl (by decide) (by decide) (by decide) (by decide) ?_
        rintro _ _ ⟨rfl, rfl⟩
        try simp only [List.replicate_succ, List.replicate_zero, List.set_cons_zero, List.set_cons_succ, List.length_nil, List.length_cons, Nat.zero_add, Nat.reduceAdd, List.nil_append, List.cons_append]
        refine go_aload e0_284 rfl rfl ?_
        refine go_iconst e0_286 (x := 1) rfl ?_
        refine go_iaload e0_287 rfl (k := 1) (by decide) rfl ?_
        refine go_icneN e0_288 (tg := 295) (by decide) (by decide) ?_
        refine go_iconst e0_291 (x := 1) rfl ?_
        refine go_goto e0_292 (tg := 296) (by decide) ?_
        refine go_istore_8 e0_296 rfl ?_
        refine go_iconst e0_298 (x := 2) rfl ?_
        refine go_iload e0_299 rfl ?_
        refine go_icgeY e0_301 (tg := 329) (by decide) (by decide) ?_
        refine go_iconst e0_329 (x := 3) rfl ?_
        refine go_iload e0_330 rfl ?_
        refine go_icgeY e0_332 (tg := 360) (by decide) (by decide) ?_
        refine go_iconst e0_360 (x := 4) rfl ?_
        refine go_iload e0_361 rfl ?_
        refine go_icgeY e0_363 (tg := 391) (by decide) (by decide) ?_
        refine go_iload e0_391 rfl ?_
        refine go_zreturn e0_393 rfl (by decide) (by decide) (by decide) ?_
        exact rfl
    · intro c95
      refine go_aload e0_98 rfl rfl ?_
      refine go_iload e0_100 rfl ?_
      refine go_iconst e0_102 (x := 1) rfl ?_
      refine go_iastore e0_103 rfl (k := 1) (by decide) (Nat.le_of_ble_eq_true rfl) ?_
      simp only [List.replicate_succ, List.replicate_zero, List.set_cons_zero, List.set_cons_succ, List.length_nil, List.length_cons, Nat.zero_add, Nat.reduceAdd, List.nil_append, List.cons_append]
      refine go_iinc_6 e0_104 (z := 1) rfl ?_
      refine go_iloadN e0_107 rfl ?_
      refine go_iconst e0_108 (x := 1) rfl ?_
      refine go_icleN e0_109 (tg := 130) (by decide) (by decide) ?_
      refine go_aload e0_112 rfl rfl ?_
      refine go_iconst e0_114 (x := 1) rfl ?_
      refine go_baload e0_115 rfl (k := 1) (by decide) rfl ?_
      refine go_bipush e0_116 (x := 10) rfl ?_
      refine go_icne e0_118 (tg := 130) (by decide) ?_ ?_
      · intro c118
        refine go_iloadN e0_130 rfl ?_
        refine go_iconst e0_131 (x := 2) rfl ?_
        refine go_icleY e0_132 (tg := 153) (by decide) (by decide) ?_
        refine go_iloadN e0_153 rfl ?_
        refine go_iconst e0_154 (x := 3) rfl ?_
        refine go_icleY e0_155 (tg := 176) (by decide) (by decide) ?_
        refine go_iloadN e0_176 rfl ?_
        refine go_ifleN e0_177 (tg := 200) (by decide) (by decide) ?_
        refine go_aload e0_180 rfl rfl ?_
        refine go_iloadN e0_182 rfl ?_
        refine go_iconst e0_183 (x := 1) rfl ?_
        refine go_isub e0_184 ?_
        refine go_baload e0_185 rfl (k := 1) (by decide) rfl ?_
        refine go_bipush e0_186 (x := 10) rfl ?_
        refine go_iceqN e0_188 (tg := 200) (by decide) c118 ?_
        refine go_aload e0_191 rfl rfl ?_
        refine go_iload e0_193 rfl ?_
        refine go_iloadN e0_195 rfl ?_
        refine go_iastore e0_196 rfl (k := 2) (by decide) (Nat.le_of_ble_eq_true rfl) ?_
        simp only [List.replicate_succ, List.replicate_zero, List.set_cons_zero, List.set_cons_succ, List.length_nil, List.length_cons, Nat.zero_add, Nat.reduceAdd, List.nil_append, List.cons_append]
        refine go_iinc_6 e0_197 (z := 1) rfl ?_
        refine go_aload e0_200 rfl rfl ?_
        refine go_static_1 e0_202 (wd 3 rfl) (wd 4 rfl) (wd 6 rfl) (wd 5 rfl) hy_6 pd_9 rfl (c_of hw (n := 2) (xs := [x0, x1]) rfl rfl (by decide)) rfl 0 rfl (by decide) (by decide) (by decide) (by decide) ?_
        rintro _ _ ⟨rfl, st, c0, rfl, hc, hsl, hst, hsc⟩
        have hb0 : own_b [x0, x1] 0 = 1 := own_byes (rfl : ([x0, x1] : List Int32)[0]? = some x0) c95
        have hb1 : own_b [x0, x1] 1 = 0 := own_bno (rfl : ([x0, x1] : List Int32)[1]? = some x1) c118
        obtain rfl : c0 = 2 := by
          simp [own_c, own_last, hb0, hb1] at hc
          omega
        have s0 : st[0]? = some (N2I 0) := hst 0 0 (by decide) (by simp [own_lf, hb0, hb1])
        have s1 : st[1]? = some (N2I 1) := hst 1 1 (by decide) (by simp [own_lf, hb0, hb1])
        have s2 : st[2]? = some (N2I 2) := hsc
        try simp only [List.replicate_succ, List.replicate_zero, List.set_cons_zero, List.set_cons_succ, List.length_nil, List.length_cons, Nat.zero_add, Nat.reduceAdd, List.nil_append, List.cons_append]
        refine go_astore_7 e0_205 rfl rfl ?_
        refine go_aload e0_207 rfl rfl ?_
        refine go_virtual_0 e0_209 (wd 22 rfl) (wd 23 rfl) (wd 25 rfl) (wd 24 rfl) (wd 26 rfl) (wd 5 rfl) hy_6 pd_10 rfl (c_data hw rfl) rfl rfl 0 rfl (by decide) (by decide) (by decide) (by decide) ?_
        rintro _ _ ⟨rfl, rfl⟩
        try simp only [List.replicate_succ, List.replicate_zero, List.set_cons_zero, List.set_cons_succ, List.length_nil, List.length_cons, Nat.zero_add, Nat.reduceAdd, List.nil_append, List.cons_append]
        refine go_aload e0_212 rfl rfl ?_
        refine go_acmp e0_214 rfl rfl (same := true) rfl (tg := 219) (by decide) ?_
        show Go C 219 _ _ _ _ _
        refine go_aload e0_219 rfl rfl ?_
        refine go_virtual_0 e0_221 (wd 27 rfl) (wd 28 rfl) (wd 30 rfl) (wd 29 rfl) (wd 31 rfl) (wd 5 rfl) hy_6 pd_11 rfl (c_cnt hw rfl rfl) rfl rfl 0 rfl (by decide) (by decide) (by decide) (by decide) ?_
        rintro _ _ ⟨rfl, rfl⟩
        try simp only [List.replicate_succ, List.replicate_zero, List.set_cons_zero, List.set_cons_succ, List.length_nil, List.length_cons, Nat.zero_add, Nat.reduceAdd, List.nil_append, List.cons_append]
        refine go_iload e0_224 rfl ?_
        refine go_iconst e0_226 (x := 1) rfl ?_
        refine go_isub e0_227 ?_
        refine go_iceqY e0_228 (tg := 233) (by decide) (by rw [hsl]; decide) ?_
        refine go_iconst e0_233 (x := 1) rfl ?_
        refine go_istore_8 e0_234 rfl ?_
        refine go_iconst e0_236 (x := 0) rfl ?_
        refine go_iload e0_237 rfl ?_
        refine go_icgeN e0_239 (tg := 267) (by decide) (by decide) ?_
        refine go_iload e0_242 rfl ?_
        refine go_ifeqN e0_244 (tg := 264) (by decide) (by decide) ?_
        refine go_aload e0_247 rfl rfl ?_
        refine go_iconst e0_249 (x := 0) rfl ?_
        refine go_virtual_1 e0_250 (wd 32 rfl) (wd 33 rfl) (wd 35 rfl) (wd 34 rfl) (wd 36 rfl) (wd 5 rfl) hy_6 pd_12 rfl (c_start hw (k := 0) rfl rfl (by decide) s0) rfl rfl 0 rfl (by decide) (by decide) (by decide) (by decide) ?_
        rintro _ _ ⟨rfl, rfl⟩
        try simp only [List.replicate_succ, List.replicate_zero, List.set_cons_zero, List.set_cons_succ, List.length_nil, List.length_cons, Nat.zero_add, Nat.reduceAdd, List.nil_append, List.cons_append]
        refine go_aload e0_253 rfl rfl ?_
        refine go_iconst e0_255 (x := 0) rfl ?_
        refine go_iaload e0_256 rfl (k := 0) (by decide) rfl ?_
        refine go_icneN e0_257 (tg := 264) (by decide) (by decide) ?_
        refine go_iconst e0_260 (x := 1) rfl ?_
        refine go_goto e0_261 (tg := 265) (by decide) ?_
        refine go_istore_8 e0_265 rfl ?_
        refine go_iconst e0_267 (x := 1) rfl ?_
        refine go_iload e0_268 rfl ?_
        refine go_icgeN e0_270 (tg := 298) (by decide) (by decide) ?_
        refine go_iload e0_273 rfl ?_
        refine go_ifeqN e0_275 (tg := 295) (by decide) (by decide) ?_
        refine go_aload e0_278 rfl rfl ?_
        refine go_iconst e0_280 (x := 1) rfl ?_
        refine go_virtual_1 e0_281 (wd 32 rfl) (wd 33 rfl) (wd 35 rfl) (wd 34 rfl) (wd 36 rfl) (wd 5 rfl) hy_6 pd_12 rfl (c_start hw (k := 1) rfl rfl (by decide) s1) rfl rfl 0 rfl (by decide) (by decide) (by decide) (by decide) ?_
        rintro _ _ ⟨rfl, rfl⟩
        try simp only [List.replicate_succ, List.replicate_zero, List.set_cons_zero, List.set_cons_succ, List.length_nil, List.length_cons, Nat.zero_add, Nat.reduceAdd, List.nil_append, List.cons_append]
        refine go_aload e0_284 rfl rfl ?_
        refine go_iconst e0_286 (x := 1) rfl ?_
        refine go_iaload e0_287 rfl (k := 1) (by decide) rfl ?_
        refine go_icneN e0_288 (tg := 295) (by decide) (by decide) ?_
        refine go_iconst e0_291 (x := 1) rfl ?_
        refine go_goto e0_292 (tg := 296) (by decide) ?_
        refine go_istore_8 e0_296 rfl ?_
        refine go_iconst e0_298 (x := 2) rfl ?_
        refine go_iload e0_299 rfl ?_
        refine go_icgeN e0_301 (tg := 329) (by decide) (by decide) ?_
        refine go_iload e0_304 rfl ?_
        refine go_ifeqN e0_306 (tg := 326) (by decide) (by decide) ?_
        refine go_aload e0_309 rfl rfl ?_
        refine go_iconst e0_311 (x := 2) rfl ?_
        refine go_virtual_1 e0_312 (wd 32 rfl) (wd 33 rfl) (wd 35 rfl) (wd 34 rfl) (wd 36 rfl) (wd 5 rfl) hy_6 pd_12 rfl (c_start hw (k := 2) rfl rfl (by decide) s2) rfl rfl 0 rfl (by decide) (by decide) (by decide) (by decide) ?_
        rintro _ _ ⟨rfl, rfl⟩
        try simp only [List.replicate_succ, List.replicate_zero, List.set_cons_zero, List.set_cons_succ, List.length_nil, List.length_cons, Nat.zero_add, Nat.reduceAdd, List.nil_append, List.cons_append]
        refine go_aload e0_315 rfl rfl ?_
        refine go_iconst e0_317 (x := 2) rfl ?_
        refine go_iaload e0_318 rfl (k := 2) (by decide) rfl ?_
        refine go_icneN e0_319 (tg := 326) (by decide) (by decide) ?_
        refine go_iconst e0_322 (x := 1) rfl ?_
        refine go_goto e0_323 (tg := 327) (by decide) ?_
        refine go_istore_8 e0_327 rfl ?_
        refine go_iconst e0_329 (x := 3) rfl ?_
        refine go_iload e0_330 rfl ?_
        refine go_icgeY e0_332 (tg := 360) (by decide) (by decide) ?_
        refine go_iconst e0_360 (x := 4) rfl ?_
        refine go_iload e0_361 rfl ?_
        refine go_icgeY e0_363 (tg := 391) (by decide) (by decide) ?_
        refine go_iload e0_391 rfl ?_
        refine go_zreturn e0_393 rfl (by decide) (by decide) (by decide) ?_
        exact rfl
      · intro c118
        refine go_aload e0_121 rfl rfl ?_
        refine go_iload e0_123 rfl ?_
        refine go_iconst e0_125 (x := 2) rfl ?_
        refine go_iastore e0_126 rfl (k := 2) (by decide) (Nat.le_of_ble_eq_true rfl) ?_
        simp only [List.replicate_succ, List.replicate_zero, List.set_cons_zero, List.set_cons_succ, List.length_nil, List.length_cons, Nat.zero_add, Nat.reduceAdd, List.nil_append, List.cons_append]
        refine go_iinc_6 e0_127 (z := 1) rfl ?_
        refine go_iloadN e0_130 rfl ?_
        refine go_iconst e0_131 (x := 2) rfl ?_
        refine go_icleY e0_132 (tg := 153) (by decide) (by decide) ?_
        refine go_iloadN e0_153 rfl ?_
        refine go_iconst e0_154 (x := 3) rfl ?_
        refine go_icleY e0_155 (tg := 176) (by decide) (by decide) ?_
        refine go_iloadN e0_176 rfl ?_
        refine go_ifleN e0_177 (tg := 200) (by decide) (by decide) ?_
        refine go_aload e0_180 rfl rfl ?_
        refine go_iloadN e0_182 rfl ?_
        refine go_iconst e0_183 (x := 1) rfl ?_
        refine go_isub e0_184 ?_
        refine go_baload e0_185 rfl (k := 1) (by decide) rfl ?_
        refine go_bipush e0_186 (x := 10) rfl ?_
        refine go_iceqY e0_188 (tg := 200) (by decide) c118 ?_
        refine go_aload e0_200 rfl rfl ?_
        refine go_static_1 e0_202 (wd 3 rfl) (wd 4 rfl) (wd 6 rfl) (wd 5 rfl) hy_6 pd_9 rfl (c_of hw (n := 2) (xs := [x0, x1]) rfl rfl (by decide)) rfl 0 rfl (by decide) (by decide) (by decide) (by decide) ?_
        rintro _ _ ⟨rfl, st, c0, rfl, hc, hsl, hst, hsc⟩
        have hb0 : own_b [x0, x1] 0 = 1 := own_byes (rfl : ([x0, x1] : List Int32)[0]? = some x0) c95
        have hb1 : own_b [x0, x1] 1 = 1 := own_byes (rfl : ([x0, x1] : List Int32)[1]? = some x1) c118
        obtain rfl : c0 = 2 := by
          simp [own_c, own_last, hb0, hb1] at hc
          omega
        have s0 : st[0]? = some (N2I 0) := hst 0 0 (by decide) (by simp [own_lf, hb0, hb1])
        have s1 : st[1]? = some (N2I 1) := hst 1 1 (by decide) (by simp [own_lf, hb0, hb1])
        have s2 : st[2]? = some (N2I 2) := hsc
        try simp only [List.replicate_succ, List.replicate_zero, List.set_cons_zero, List.set_cons_succ, List.length_nil, List.length_cons, Nat.zero_add, Nat.reduceAdd, List.nil_append, List.cons_append]
        refine go_astore_7 e0_205 rfl rfl ?_
        refine go_aload e0_207 rfl rfl ?_
        refine go_virtual_0 e0_209 (wd 22 rfl) (wd 23 rfl) (wd 25 rfl) (wd 24 rfl) (wd 26 rfl) (wd 5 rfl) hy_6 pd_10 rfl (c_data hw rfl) rfl rfl 0 rfl (by decide) (by decide) (by decide) (by decide) ?_
        rintro _ _ ⟨rfl, rfl⟩
        try simp only [List.replicate_succ, List.replicate_zero, List.set_cons_zero, List.set_cons_succ, List.length_nil, List.length_cons, Nat.zero_add, Nat.reduceAdd, List.nil_append, List.cons_append]
        refine go_aload e0_212 rfl rfl ?_
        refine go_acmp e0_214 rfl rfl (same := true) rfl (tg := 219) (by decide) ?_
        show Go C 219 _ _ _ _ _
        refine go_aload e0_219 rfl rfl ?_
        refine go_virtual_0 e0_221 (wd 27 rfl) (wd 28 rfl) (wd 30 rfl) (wd 29 rfl) (wd 31 rfl) (wd 5 rfl) hy_6 pd_11 rfl (c_cnt hw rfl rfl) rfl rfl 0 rfl (by decide) (by decide) (by decide) (by decide) ?_
        rintro _ _ ⟨rfl, rfl⟩
        try simp only [List.replicate_succ, List.replicate_zero, List.set_cons_zero, List.set_cons_succ, List.length_nil, List.length_cons, Nat.zero_add, Nat.reduceAdd, List.nil_append, List.cons_append]
        refine go_iload e0_224 rfl ?_
        refine go_iconst e0_226 (x := 1) rfl ?_
        refine go_isub e0_227 ?_
        refine go_iceqY e0_228 (tg := 233) (by decide) (by rw [hsl]; decide) ?_
        refine go_iconst e0_233 (x := 1) rfl ?_
        refine go_istore_8 e0_234 rfl ?_
        refine go_iconst e0_236 (x := 0) rfl ?_
        refine go_iload e0_237 rfl ?_
        refine go_icgeN e0_239 (tg := 267) (by decide) (by decide) ?_
        refine go_iload e0_242 rfl ?_
        refine go_ifeqN e0_244 (tg := 264) (by decide) (by decide) ?_
        refine go_aload e0_247 rfl rfl ?_
        refine go_iconst e0_249 (x := 0) rfl ?_
        refine go_virtual_1 e0_250 (wd 32 rfl) (wd 33 rfl) (wd 35 rfl) (wd 34 rfl) (wd 36 rfl) (wd 5 rfl) hy_6 pd_12 rfl (c_start hw (k := 0) rfl rfl (by decide) s0) rfl rfl 0 rfl (by decide) (by decide) (by decide) (by decide) ?_
        rintro _ _ ⟨rfl, rfl⟩
        try simp only [List.replicate_succ, List.replicate_zero, List.set_cons_zero, List.set_cons_succ, List.length_nil, List.length_cons, Nat.zero_add, Nat.reduceAdd, List.nil_append, List.cons_append]
        refine go_aload e0_253 rfl rfl ?_
        refine go_iconst e0_255 (x := 0) rfl ?_
        refine go_iaload e0_256 rfl (k := 0) (by decide) rfl ?_
        refine go_icneN e0_257 (tg := 264) (by decide) (by decide) ?_
        refine go_iconst e0_260 (x := 1) rfl ?_
        refine go_goto e0_261 (tg := 265) (by decide) ?_
        refine go_istore_8 e0_265 rfl ?_
        refine go_iconst e0_267 (x := 1) rfl ?_
        refine go_iload e0_268 rfl ?_
        refine go_icgeN e0_270 (tg := 298) (by decide) (by decide) ?_
        refine go_iload e0_273 rfl ?_
        refine go_ifeqN e0_275 (tg := 295) (by decide) (by decide) ?_
        refine go_aload e0_278 rfl rfl ?_
        refine go_iconst e0_280 (x := 1) rfl ?_
        refine go_virtual_1 e0_281 (wd 32 rfl) (wd 33 rfl) (wd 35 rfl) (wd 34 rfl) (wd 36 rfl) (wd 5 rfl) hy_6 pd_12 rfl (c_start hw (k := 1) rfl rfl (by decide) s1) rfl rfl 0 rfl (by decide) (by decide) (by decide) (by decide) ?_
        rintro _ _ ⟨rfl, rfl⟩
        try simp only [List.replicate_succ, List.replicate_zero, List.set_cons_zero, List.set_cons_succ, List.length_nil, List.length_cons, Nat.zero_add, Nat.reduceAdd, List.nil_append, List.cons_append]
        refine go_aload e0_284 rfl rfl ?_
        refine go_iconst e0_286 (x := 1) rfl ?_
        refine go_iaload e0_287 rfl (k := 1) (by decide) rfl ?_
        refine go_icneN e0_288 (tg := 295) (by decide) (by decide) ?_
        refine go_iconst e0_291 (x := 1) rfl ?_
        refine go_goto e0_292 (tg := 296) (by decide) ?_
        refine go_istore_8 e0_296 rfl ?_
        refine go_iconst e0_298 (x := 2) rfl ?_
        refine go_iload e0_299 rfl ?_
        refine go_icgeN e0_301 (tg := 329) (by decide) (by decide) ?_
        refine go_iload e0_304 rfl ?_
        refine go_ifeqN e0_306 (tg := 326) (by decide) (by decide) ?_
        refine go_aload e0_309 rfl rfl ?_
        refine go_iconst e0_311 (x := 2) rfl ?_
        refine go_virtual_1 e0_312 (wd 32 rfl) (wd 33 rfl) (wd 35 rfl) (wd 34 rfl) (wd 36 rfl) (wd 5 rfl) hy_6 pd_12 rfl (c_start hw (k := 2) rfl rfl (by decide) s2) rfl rfl 0 rfl (by decide) (by decide) (by decide) (by decide) ?_
        rintro _ _ ⟨rfl, rfl⟩
        try simp only [List.replicate_succ, List.replicate_zero, List.set_cons_zero, List.set_cons_succ, List.length_nil, List.length_cons, Nat.zero_add, Nat.reduceAdd, List.nil_append, List.cons_append]
        refine go_aload e0_315 rfl rfl ?_
        refine go_iconst e0_317 (x := 2) rfl ?_
        refine go_iaload e0_318 rfl (k := 2) (by decide) rfl ?_
        refine go_icneN e0_319 (tg := 326) (by decide) (by decide) ?_
        refine go_iconst e0_322 (x := 1) rfl ?_
        refine go_goto e0_323 (tg := 327) (by decide) ?_
        refine go_istore_8 e0_327 rfl ?_
        refine go_iconst e0_329 (x := 3) rfl ?_
        refine go_iload e0_330 rfl ?_
        refine go_icgeY e0_332 (tg := 360) (by decide) (by decide) ?_
        refine go_iconst e0_360 (x := 4) rfl ?_
        refine go_iload e0_361 rfl ?_
        refine go_icgeY e0_363 (tg := 391) (by decide) (by decide) ?_
        refine go_iload e0_391 rfl ?_
        refine go_zreturn e0_393 rfl (by decide) (by decide) (by decide) ?_
        exact rfl
  · refine go_iloadN e0_7 rfl ?_
    refine go_newarray e0_8 (wd 1 rfl) (k := 3) rfl (vs := [.int 0, .int 0, .int 0]) rfl (cap := 3) (by decide) (by decide) (by decide) (by decide) ?_
    simp only [List.replicate_succ, List.replicate_zero, List.set_cons_zero, List.set_cons_succ, List.length_nil, List.length_cons, Nat.zero_add, Nat.reduceAdd, List.nil_append, List.cons_append]
    refine go_astore_4 e0_10 rfl rfl ?_
    refine go_iloadN e0_12 rfl ?_
    refine go_ifleN e0_13 (tg := 26) (by decide) (by decide) ?_
    refine go_aload e0_16 rfl rfl ?_
    refine go_iconst e0_18 (x := 0) rfl ?_
    refine go_iloadN e0_19 rfl ?_
    refine go_iloadN e0_20 rfl ?_
    refine go_iconst e0_21 (x := 0) rfl ?_
    refine go_static_3 e0_22 (wd 37 rfl) (wd 38 rfl) (wd 40 rfl) (wd 39 rfl) hy_13 pd_14 rfl (c_pick hw) rfl 2 rfl (by decide) (by decide) (by decide) (by decide) ?_
    rintro _ _ ⟨x0, rfl, hx0, rfl⟩
    try simp only [List.replicate_succ, List.replicate_zero, List.set_cons_zero, List.set_cons_succ, List.length_nil, List.length_cons, Nat.zero_add, Nat.reduceAdd, List.nil_append, List.cons_append]
    refine go_bastore e0_25 rfl (k := 0) (by decide) (Nat.le_of_ble_eq_true rfl) ?_
    simp only [List.replicate_succ, List.replicate_zero, List.set_cons_zero, List.set_cons_succ, List.length_nil, List.length_cons, Nat.zero_add, Nat.reduceAdd, List.nil_append, List.cons_append]
    rw [hx0]
    refine go_iloadN e0_26 rfl ?_
    refine go_iconst e0_27 (x := 1) rfl ?_
    refine go_icleN e0_28 (tg := 41) (by decide) (by decide) ?_
    refine go_aload e0_31 rfl rfl ?_
    refine go_iconst e0_33 (x := 1) rfl ?_
    refine go_iloadN e0_34 rfl ?_
    refine go_iloadN e0_35 rfl ?_
    refine go_iconst e0_36 (x := 1) rfl ?_
    refine go_static_3 e0_37 (wd 37 rfl) (wd 38 rfl) (wd 40 rfl) (wd 39 rfl) hy_13 pd_14 rfl (c_pick hw) rfl 2 rfl (by decide) (by decide) (by decide) (by decide) ?_
    rintro _ _ ⟨x1, rfl, hx1, rfl⟩
    try simp only [List.replicate_succ, List.replicate_zero, List.set_cons_zero, List.set_cons_succ, List.length_nil, List.length_cons, Nat.zero_add, Nat.reduceAdd, List.nil_append, List.cons_append]
    refine go_bastore e0_40 rfl (k := 1) (by decide) (Nat.le_of_ble_eq_true rfl) ?_
    simp only [List.replicate_succ, List.replicate_zero, List.set_cons_zero, List.set_cons_succ, List.length_nil, List.length_cons, Nat.zero_add, Nat.reduceAdd, List.nil_append, List.cons_append]
    rw [hx1]
    refine go_iloadN e0_41 rfl ?_
    refine go_iconst e0_42 (x := 2) rfl ?_
    refine go_icleN e0_43 (tg := 56) (by decide) (by decide) ?_
    refine go_aload e0_46 rfl rfl ?_
    refine go_iconst e0_48 (x := 2) rfl ?_
    refine go_iloadN e0_49 rfl ?_
    refine go_iloadN e0_50 rfl ?_
    refine go_iconst e0_51 (x := 2) rfl ?_
    refine go_static_3 e0_52 (wd 37 rfl) (wd 38 rfl) (wd 40 rfl) (wd 39 rfl) hy_13 pd_14 rfl (c_pick hw) rfl 2 rfl (by decide) (by decide) (by decide) (by decide) ?_
    rintro _ _ ⟨x2, rfl, hx2, rfl⟩
    try simp only [List.replicate_succ, List.replicate_zero, List.set_cons_zero, List.set_cons_succ, List.length_nil, List.length_cons, Nat.zero_add, Nat.reduceAdd, List.nil_append, List.cons_append]
    refine go_bastore e0_55 rfl (k := 2) (by decide) (Nat.le_of_ble_eq_true rfl) ?_
    simp only [List.replicate_succ, List.replicate_zero, List.set_cons_zero, List.set_cons_succ, List.length_nil, List.length_cons, Nat.zero_add, Nat.reduceAdd, List.nil_append, List.cons_append]
    rw [hx2]
    refine go_iloadN e0_56 rfl ?_
    refine go_iconst e0_57 (x := 3) rfl ?_
    refine go_icleY e0_58 (tg := 71) (by decide) (by decide) ?_
    refine go_bipush e0_71 (x := 6) rfl ?_
    refine go_newarray e0_73 (wd 2 rfl) (k := 6) rfl (vs := [.int 0, .int 0, .int 0, .int 0, .int 0, .int 0]) rfl (cap := 6) (by decide) (by decide) (by decide) (by decide) ?_
    simp only [List.replicate_succ, List.replicate_zero, List.set_cons_zero, List.set_cons_succ, List.length_nil, List.length_cons, Nat.zero_add, Nat.reduceAdd, List.nil_append, List.cons_append]
    refine go_astore_5 e0_75 rfl rfl ?_
    refine go_aload e0_77 rfl rfl ?_
    refine go_iconst e0_79 (x := 0) rfl ?_
    refine go_iconst e0_80 (x := 0) rfl ?_
    refine go_iastore e0_81 rfl (k := 0) (by decide) (Nat.le_of_ble_eq_true rfl) ?_
    simp only [List.replicate_succ, List.replicate_zero, List.set_cons_zero, List.set_cons_succ, List.length_nil, List.length_cons, Nat.zero_add, Nat.reduceAdd, List.nil_append, List.cons_append]
    refine go_iconst e0_82 (x := 1) rfl ?_
    refine go_istore_6 e0_83 rfl ?_
    refine go_iloadN e0_85 rfl ?_
    refine go_ifleN e0_86 (tg := 107) (by decide) (by decide) ?_
    refine go_aload e0_89 rfl rfl ?_
    refine go_iconst e0_91 (x := 0) rfl ?_
    refine go_baload e0_92 rfl (k := 0) (by decide) rfl ?_
    refine go_bipush e0_93 (x := 10) rfl ?_
    refine go_icne e0_95 (tg := 107) (by decide) ?_ ?_
    · intro c95
      refine go_iloadN e0_107 rfl ?_
      refine go_iconst e0_108 (x := 1) rfl ?_
      refine go_icleN e0_109 (tg := 130) (by decide) (by decide) ?_
      refine go_aload e0_112 rfl rfl ?_
      refine go_iconst e0_114 (x := 1) rfl ?_
      refine go_baload e0_115 rfl (k := 1) (by decide) rfl ?_
      refine go_bipush e0_116 (x := 10) rfl ?_
      refine go_icne e0_118 (tg := 130) (by decide) ?_ ?_
      · intro c118
        refine go_iloadN e0_130 rfl ?_
        refine go_iconst e0_131 (x := 2) rfl ?_
        refine go_icleN e0_132 (tg := 153) (by decide) (by decide) ?_
        refine go_aload e0_135 rfl rfl ?_
        refine go_iconst e0_137 (x := 2) rfl ?_
        refine go_baload e0_138 rfl (k := 2) (by decide) rfl ?_
        refine go_bipush e0_139 (x := 10) rfl ?_
        refine go_icne e0_141 (tg := 153) (by decide) ?_ ?_
        · intro c141
          refine go_iloadN e0_153 rfl ?_
          refine go_iconst e0_154 (x := 3) rfl ?_
          refine go_icleY e0_155 (tg := 176) (by decide) (by decide) ?_
          refine go_iloadN e0_176 rfl ?_
          refine go_ifleN e0_177 (tg := 200) (by decide) (by decide) ?_
          refine go_aload e0_180 rfl rfl ?_
          refine go_iloadN e0_182 rfl ?_
          refine go_iconst e0_183 (x := 1) rfl ?_
          refine go_isub e0_184 ?_
          refine go_baload e0_185 rfl (k := 2) (by decide) rfl ?_
          refine go_bipush e0_186 (x := 10) rfl ?_
          refine go_iceqN e0_188 (tg := 200) (by decide) c141 ?_
          refine go_aload e0_191 rfl rfl ?_
          refine go_iload e0_193 rfl ?_
          refine go_iloadN e0_195 rfl ?_
          refine go_iastore e0_196 rfl (k := 1) (by decide) (Nat.le_of_ble_eq_true rfl) ?_
          simp only [List.replicate_succ, List.replicate_zero, List.set_cons_zero, List.set_cons_succ, List.length_nil, List.length_cons, Nat.zero_add, Nat.reduceAdd, List.nil_append, List.cons_append]
          refine go_iinc_6 e0_197 (z := 1) rfl ?_
          refine go_aload e0_200 rfl rfl ?_
          refine go_static_1 e0_202 (wd 3 rfl) (wd 4 rfl) (wd 6 rfl) (wd 5 rfl) hy_6 pd_9 rfl (c_of hw (n := 3) (xs := [x0, x1, x2]) rfl rfl (by decide)) rfl 0 rfl (by decide) (by decide) (by decide) (by decide) ?_
          rintro _ _ ⟨rfl, st, c0, rfl, hc, hsl, hst, hsc⟩
          have hb0 : own_b [x0, x1, x2] 0 = 0 := own_bno (rfl : ([x0, x1, x2] : List Int32)[0]? = some x0) c95
          have hb1 : own_b [x0, x1, x2] 1 = 0 := own_bno (rfl : ([x0, x1, x2] : List Int32)[1]? = some x1) c118
          have hb2 : own_b [x0, x1, x2] 2 = 0 := own_bno (rfl : ([x0, x1, x2] : List Int32)[2]? = some x2) c141
          obtain rfl : c0 = 1 := by
            simp [own_c, own_last, hb0, hb1, hb2] at hc
            omega
          have s0 : st[0]? = some (N2I 0) := hst 0 0 (by decide) (by simp [own_lf, hb0, hb1, hb2])
          have s1 : st[1]? = some (N2I 3) := hsc
          try simp only [List.replicate_succ, List.replicate_zero, List.set_cons_zero, List.set_cons_succ, List.length_nil, List.length_cons, Nat.zero_add, Nat.reduceAdd, List.nil_append, List.cons_append]
          refine go_astore_7 e0_205 rfl rfl ?_
          refine go_aload e0_207 rfl rfl ?_
          refine go_virtual_0 e0_209 (wd 22 rfl) (wd 23 rfl) (wd 25 rfl) (wd 24 rfl) (wd 26 rfl) (wd 5 rfl) hy_6 pd_10 rfl (c_data hw rfl) rfl rfl 0 rfl (by decide) (by decide) (by decide) (by decide) ?_
          rintro _ _ ⟨rfl, rfl⟩
          try simp only [List.replicate_succ, List.replicate_zero, List.set_cons_zero, List.set_cons_succ, List.length_nil, List.length_cons, Nat.zero_add, Nat.reduceAdd, List.nil_append, List.cons_append]
          refine go_aload e0_212 rfl rfl ?_
          refine go_acmp e0_214 rfl rfl (same := true) rfl (tg := 219) (by decide) ?_
          show Go C 219 _ _ _ _ _
          refine go_aload e0_219 rfl rfl ?_
          refine go_virtual_0 e0_221 (wd 27 rfl) (wd 28 rfl) (wd 30 rfl) (wd 29 rfl) (wd 31 rfl) (wd 5 rfl) hy_6 pd_11 rfl (c_cnt hw rfl rfl) rfl rfl 0 rfl (by decide) (by decide) (by decide) (by decide) ?_
          rintro _ _ ⟨rfl, rfl⟩
          try simp only [List.replicate_succ, List.replicate_zero, List.set_cons_zero, List.set_cons_succ, List.length_nil, List.length_cons, Nat.zero_add, Nat.reduceAdd, List.nil_append, List.cons_append]
          refine go_iload e0_224 rfl ?_
          refine go_iconst e0_226 (x := 1) rfl ?_
          refine go_isub e0_227 ?_
          refine go_iceqY e0_228 (tg := 233) (by decide) (by rw [hsl]; decide) ?_
          refine go_iconst e0_233 (x := 1) rfl ?_
          refine go_istore_8 e0_234 rfl ?_
          refine go_iconst e0_236 (x := 0) rfl ?_
          refine go_iload e0_237 rfl ?_
          refine go_icgeN e0_239 (tg := 267) (by decide) (by decide) ?_
          refine go_iload e0_242 rfl ?_
          refine go_ifeqN e0_244 (tg := 264) (by decide) (by decide) ?_
          refine go_aload e0_247 rfl rfl ?_
          refine go_iconst e0_249 (x := 0) rfl ?_
          refine go_virtual_1 e0_250 (wd 32 rfl) (wd 33 rfl) (wd 35 rfl) (wd 34 rfl) (wd 36 rfl) (wd 5 rfl) hy_6 pd_12 rfl (c_start hw (k := 0) rfl rfl (by decide) s0) rfl rfl 0 rfl (by decide) (by decide) (by decide) (by decide) ?_
          rintro _ _ ⟨rfl, rfl⟩
          try simp only [List.replicate_succ, List.replicate_zero, List.set_cons_zero, List.set_cons_succ, List.length_nil, List.length_cons, Nat.zero_add, Nat.reduceAdd, List.nil_append, List.cons_append]
          refine go_aload e0_253 rfl rfl ?_
          refine go_iconst e0_255 (x := 0) rfl ?_
          refine go_iaload e0_256 rfl (k := 0) (by decide) rfl ?_
          refine go_icneN e0_257 (tg := 264) (by decide) (by decide) ?_
          refine go_iconst e0_260 (x := 1) rfl ?_
          refine go_goto e0_261 (tg := 265) (by decide) ?_
          refine go_istore_8 e0_265 rfl ?_
          refine go_iconst e0_267 (x := 1) rfl ?_
          refine go_iload e0_268 rfl ?_
          refine go_icgeN e0_270 (tg := 298) (by decide) (by decide) ?_
          refine go_iload e0_273 rfl ?_
          refine go_ifeqN e0_275 (tg := 295) (by decide) (by decide) ?_
          refine go_aload e0_278 rfl rfl ?_
          refine go_iconst e0_280 (x := 1) rfl ?_
          refine go_virtual_1 e0_281 (wd 32 rfl) (wd 33 rfl) (wd 35 rfl) (wd 34 rfl) (wd 36 rfl) (wd 5 rfl) hy_6 pd_12 rfl (c_start hw (k := 1) rfl rfl (by decide) s1) rfl rfl 0 rfl (by decide) (by decide) (by decide) (by decide) ?_
          rintro _ _ ⟨rfl, rfl⟩
          try simp only [List.replicate_succ, List.replicate_zero, List.set_cons_zero, List.set_cons_succ, List.length_nil, List.length_cons, Nat.zero_add, Nat.reduceAdd, List.nil_append, List.cons_append]
          refine go_aload e0_284 rfl rfl ?_
          refine go_iconst e0_286 (x := 1) rfl ?_
          refine go_iaload e0_287 rfl (k := 1) (by decide) rfl ?_
          refine go_icneN e0_288 (tg := 295) (by decide) (by decide) ?_
          refine go_iconst e0_291 (x := 1) rfl ?_
          refine go_goto e0_292 (tg := 296) (by decide) ?_
          refine go_istore_8 e0_296 rfl ?_
          refine go_iconst e0_298 (x := 2) rfl ?_
          refine go_iload e0_299 rfl ?_
          refine go_icgeY e0_301 (tg := 329) (by decide) (by decide) ?_
          refine go_iconst e0_329 (x := 3) rfl ?_
          refine go_iload e0_330 rfl ?_
          refine go_icgeY e0_332 (tg := 360) (by decide) (by decide) ?_
          refine go_iconst e0_360 (x := 4) rfl ?_
          refine go_iload e0_361 rfl ?_
          refine go_icgeY e0_363 (tg := 391) (by decide) (by decide) ?_
          refine go_iload e0_391 rfl ?_
          refine go_zreturn e0_393 rfl (by decide) (by decide) (by decide) ?_
          exact rfl
        · intro c141
          refine go_aload e0_144 rfl rfl ?_
          refine go_iload e0_146 rfl ?_
          refine go_iconst e0_148 (x := 3) rfl ?_
          refine go_iastore e0_149 rfl (k := 1) (by decide) (Nat.le_of_ble_eq_true rfl) ?_
          simp only [List.replicate_succ, List.replicate_zero, List.set_cons_zero, List.set_cons_succ, List.length_nil, List.length_cons, Nat.zero_add, Nat.reduceAdd, List.nil_append, List.cons_append]
          refine go_iinc_6 e0_150 (z := 1) rfl ?_
          refine go_iloadN e0_153 rfl ?_
          refine go_iconst e0_154 (x := 3) rfl ?_
          refine go_icleY e0_155 (tg := 176) (by decide) (by decide) ?_
          refine go_iloadN e0_176 rfl ?_
          refine go_ifleN e0_177 (tg := 200) (by decide) (by decide) ?_
          refine go_aload e0_180 rfl rfl ?_
          refine go_iloadN e0_182 rfl ?_
          refine go_iconst e0_183 (x := 1) rfl ?_
          refine go_isub e0_184 ?_
          refine go_baload e0_185 rfl (k := 2) (by decide) rfl ?_
          refine go_bipush e0_186 (x := 10) rfl ?_
          refine go_iceqY e0_188 (tg := 200) (by decide) c141 ?_
          refine go_aload e0_200 rfl rfl ?_
          refine go_static_1 e0_202 (wd 3 rfl) (wd 4 rfl) (wd 6 rfl) (wd 5 rfl) hy_6 pd_9 rfl (c_of hw (n := 3) (xs := [x0, x1, x2]) rfl rfl (by decide)) rfl 0 rfl (by decide) (by decide) (by decide) (by decide) ?_
          rintro _ _ ⟨rfl, st, c0, rfl, hc, hsl, hst, hsc⟩
          have hb0 : own_b [x0, x1, x2] 0 = 0 := own_bno (rfl : ([x0, x1, x2] : List Int32)[0]? = some x0) c95
          have hb1 : own_b [x0, x1, x2] 1 = 0 := own_bno (rfl : ([x0, x1, x2] : List Int32)[1]? = some x1) c118
          have hb2 : own_b [x0, x1, x2] 2 = 1 := own_byes (rfl : ([x0, x1, x2] : List Int32)[2]? = some x2) c141
          obtain rfl : c0 = 1 := by
            simp [own_c, own_last, hb0, hb1, hb2] at hc
            omega
          have s0 : st[0]? = some (N2I 0) := hst 0 0 (by decide) (by simp [own_lf, hb0, hb1, hb2])
          have s1 : st[1]? = some (N2I 3) := hsc
          try simp only [List.replicate_succ, List.replicate_zero, List.set_cons_zero, List.set_cons_succ, List.length_nil, List.length_cons, Nat.zero_add, Nat.reduceAdd, List.nil_append, List.cons_append]
          refine go_astore_7 e0_205 rfl rfl ?_
          refine go_aload e0_207 rfl rfl ?_
          refine go_virtual_0 e0_209 (wd 22 rfl) (wd 23 rfl) (wd 25 rfl) (wd 24 rfl) (wd 26 rfl) (wd 5 rfl) hy_6 pd_10 rfl (c_data hw rfl) rfl rfl 0 rfl (by decide) (by decide) (by decide) (by decide) ?_
          rintro _ _ ⟨rfl, rfl⟩
          try simp only [List.replicate_succ, List.replicate_zero, List.set_cons_zero, List.set_cons_succ, List.length_nil, List.length_cons, Nat.zero_add, Nat.reduceAdd, List.nil_append, List.cons_append]
          refine go_aload e0_212 rfl rfl ?_
          refine go_acmp e0_214 rfl rfl (same := true) rfl (tg := 219) (by decide) ?_
          show Go C 219 _ _ _ _ _
          refine go_aload e0_219 rfl rfl ?_
          refine go_virtual_0 e0_221 (wd 27 rfl) (wd 28 rfl) (wd 30 rfl) (wd 29 rfl) (wd 31 rfl) (wd 5 rfl) hy_6 pd_11 rfl (c_cnt hw rfl rfl) rfl rfl 0 rfl (by decide) (by decide) (by decide) (by decide) ?_
          rintro _ _ ⟨rfl, rfl⟩
          try simp only [List.replicate_succ, List.replicate_zero, List.set_cons_zero, List.set_cons_succ, List.length_nil, List.length_cons, Nat.zero_add, Nat.reduceAdd, List.nil_append, List.cons_append]
          refine go_iload e0_224 rfl ?_
          refine go_iconst e0_226 (x := 1) rfl ?_
          refine go_isub e0_227 ?_
          refine go_iceqY e0_228 (tg := 233) (by decide) (by rw [hsl]; decide) ?_
          refine go_iconst e0_233 (x := 1) rfl ?_
          refine go_istore_8 e0_234 rfl ?_
          refine go_iconst e0_236 (x := 0) rfl ?_
          refine go_iload e0_237 rfl ?_
          refine go_icgeN e0_239 (tg := 267) (by decide) (by decide) ?_
          refine go_iload e0_242 rfl ?_
          refine go_ifeqN e0_244 (tg := 264) (by decide) (by decide) ?_
          refine go_aload e0_247 rfl rfl ?_
          refine go_iconst e0_249 (x := 0) rfl ?_
          refine go_virtual_1 e0_250 (wd 32 rfl) (wd 33 rfl) (wd 35 rfl) (wd 34 rfl) (wd 36 rfl) (wd 5 rfl) hy_6 pd_12 rfl (c_start hw (k := 0) rfl rfl (by decide) s0) rfl rfl 0 rfl (by decide) (by decide) (by decide) (by decide) ?_
          rintro _ _ ⟨rfl, rfl⟩
          try simp only [List.replicate_succ, List.replicate_zero, List.set_cons_zero, List.set_cons_succ, List.length_nil, List.length_cons, Nat.zero_add, Nat.reduceAdd, List.nil_append, List.cons_append]
          refine go_aload e0_253 rfl rfl ?_
          refine go_iconst e0_255 (x := 0) rfl ?_
          refine go_iaload e0_256 rfl (k := 0) (by decide) rfl ?_
          refine go_icneN e0_257 (tg := 264) (by decide) (by decide) ?_
          refine go_iconst e0_260 (x := 1) rfl ?_
          refine go_goto e0_261 (tg := 265) (by decide) ?_
          refine go_istore_8 e0_265 rfl ?_
          refine go_iconst e0_267 (x := 1) rfl ?_
          refine go_iload e0_268 rfl ?_
          refine go_icgeN e0_270 (tg := 298) (by decide) (by decide) ?_
          refine go_iload e0_273 rfl ?_
          refine go_ifeqN e0_275 (tg := 295) (by decide) (by decide) ?_
          refine go_aload e0_278 rfl rfl ?_
          refine go_iconst e0_280 (x := 1) rfl ?_
          refine go_virtual_1 e0_281 (wd 32 rfl) (wd 33 rfl) (wd 35 rfl) (wd 34 rfl) (wd 36 rfl) (wd 5 rfl) hy_6 pd_12 rfl (c_start hw (k := 1) rfl rfl (by decide) s1) rfl rfl 0 rfl (by decide) (by decide) (by decide) (by decide) ?_
          rintro _ _ ⟨rfl, rfl⟩
          try simp only [List.replicate_succ, List.replicate_zero, List.set_cons_zero, List.set_cons_succ, List.length_nil, List.length_cons, Nat.zero_add, Nat.reduceAdd, List.nil_append, List.cons_append]
          refine go_aload e0_284 rfl rfl ?_
          refine go_iconst e0_286 (x := 1) rfl ?_
          refine go_iaload e0_287 rfl (k := 1) (by decide) rfl ?_
          refine go_icneN e0_288 (tg := 295) (by decide) (by decide) ?_
          refine go_iconst e0_291 (x := 1) rfl ?_
          refine go_goto e0_292 (tg := 296) (by decide) ?_
          refine go_istore_8 e0_296 rfl ?_
          refine go_iconst e0_298 (x := 2) rfl ?_
          refine go_iload e0_299 rfl ?_
          refine go_icgeY e0_301 (tg := 329) (by decide) (by decide) ?_
          refine go_iconst e0_329 (x := 3) rfl ?_
          refine go_iload e0_330 rfl ?_
          refine go_icgeY e0_332 (tg := 360) (by decide) (by decide) ?_
          refine go_iconst e0_360 (x := 4) rfl ?_
          refine go_iload e0_361 rfl ?_
          refine go_icgeY e0_363 (tg := 391) (by decide) (by decide) ?_
          refine go_iload e0_391 rfl ?_
          refine go_zreturn e0_393 rfl (by decide) (by decide) (by decide) ?_
          exact rfl
      · intro c118
        refine go_aload e0_121 rfl rfl ?_
        refine go_iload e0_123 rfl ?_
        refine go_iconst e0_125 (x := 2) rfl ?_
        refine go_iastore e0_126 rfl (k := 1) (by decide) (Nat.le_of_ble_eq_true rfl) ?_
        simp only [List.replicate_succ, List.replicate_zero, List.set_cons_zero, List.set_cons_succ, List.length_nil, List.length_cons, Nat.zero_add, Nat.reduceAdd, List.nil_append, List.cons_append]
        refine go_iinc_6 e0_127 (z := 1) rfl ?_
        refine go_iloadN e0_130 rfl ?_
        refine go_iconst e0_131 (x := 2) rfl ?_
        refine go_icleN e0_132 (tg := 153) (by decide) (by decide) ?_
        refine go_aload e0_135 rfl rfl ?_
        refine go_iconst e0_137 (x := 2) rfl ?_
        refine go_baload e0_138 rfl (k := 2) (by decide) rfl ?_
        refine go_bipush e0_139 (x := 10) rfl ?_
        refine go_icne e0_141 (tg := 153) (by decide) ?_ ?_
        · intro c141
          refine go_iloadN e0_153 rfl ?_
          refine go_iconst e0_154 (x := 3) rfl ?_
          refine go_icleY e0_155 (tg := 176) (by decide) (by decide) ?_
          refine go_iloadN e0_176 rfl ?_
          refine go_ifleN e0_177 (tg := 200) (by decide) (by decide) ?_
          refine go_aload e0_180 rfl rfl ?_
          refine go_iloadN e0_182 rfl ?_
          refine go_iconst e0_183 (x := 1) rfl ?_
          refine go_isub e0_184 ?_
          refine go_baload e0_185 rfl (k := 2) (by decide) rfl ?_
          refine go_bipush e0_186 (x := 10) rfl ?_
          refine go_iceqN e0_188 (tg := 200) (by decide) c141 ?_
          refine go_aload e0_191 rfl rfl ?_
          refine go_iload e0_193 rfl ?_
          refine go_iloadN e0_195 rfl ?_
          refine go_iastore e0_196 rfl (k := 2) (by decide) (Nat.le_of_ble_eq_true rfl) ?_
          simp only [List.replicate_succ, List.replicate_zero, List.set_cons_zero, List.set_cons_succ, List.length_nil, List.length_cons, Nat.zero_add, Nat.reduceAdd, List.nil_append, List.cons_append]
          refine go_iinc_6 e0_197 (z := 1) rfl ?_
          refine go_aload e0_200 rfl rfl ?_
          refine go_static_1 e0_202 (wd 3 rfl) (wd 4 rfl) (wd 6 rfl) (wd 5 rfl) hy_6 pd_9 rfl (c_of hw (n := 3) (xs := [x0, x1, x2]) rfl rfl (by decide)) rfl 0 rfl (by decide) (by decide) (by decide) (by decide) ?_
          rintro _ _ ⟨rfl, st, c0, rfl, hc, hsl, hst, hsc⟩
          have hb0 : own_b [x0, x1, x2] 0 = 0 := own_bno (rfl : ([x0, x1, x2] : List Int32)[0]? = some x0) c95
          have hb1 : own_b [x0, x1, x2] 1 = 1 := own_byes (rfl : ([x0, x1, x2] : List Int32)[1]? = some x1) c118
          have hb2 : own_b [x0, x1, x2] 2 = 0 := own_bno (rfl : ([x0, x1, x2] : List Int32)[2]? = some x2) c141
          obtain rfl : c0 = 2 := by
            simp [own_c, own_last, hb0, hb1, hb2] at hc
            omega
          have s0 : st[0]? = some (N2I 0) := hst 0 0 (by decide) (by simp [own_lf, hb0, hb1, hb2])
          have s1 : st[1]? = some (N2I 2) := hst 1 2 (by decide) (by simp [own_lf, hb0, hb1, hb2])
          have s2 : st[2]? = some (N2I 3) := hsc
          try simp only [List.replicate_succ, List.replicate_zero, List.set_cons_zero, List.set_cons_succ, List.length_nil, List.length_cons, Nat.zero_add, Nat.reduceAdd, List.nil_append, List.cons_append]
          refine go_astore_7 e0_205 rfl rfl ?_
          refine go_aload e0_207 rfl rfl ?_
          refine go_virtual_0 e0_209 (wd 22 rfl) (wd 23 rfl) (wd 25 rfl) (wd 24 rfl) (wd 26 rfl) (wd 5 rfl) hy_6 pd_10 rfl (c_data hw rfl) rfl rfl 0 rfl (by decide) (by decide) (by decide) (by decide) ?_
          rintro _ _ ⟨rfl, rfl⟩
          try simp only [List.replicate_succ, List.replicate_zero, List.set_cons_zero, List.set_cons_succ, List.length_nil, List.length_cons, Nat.zero_add, Nat.reduceAdd, List.nil_append, List.cons_append]
          refine go_aload e0_212 rfl rfl ?_
          refine go_acmp e0_214 rfl rfl (same := true) rfl (tg := 219) (by decide) ?_
          show Go C 219 _ _ _ _ _
          refine go_aload e0_219 rfl rfl ?_
          refine go_virtual_0 e0_221 (wd 27 rfl) (wd 28 rfl) (wd 30 rfl) (wd 29 rfl) (wd 31 rfl) (wd 5 rfl) hy_6 pd_11 rfl (c_cnt hw rfl rfl) rfl rfl 0 rfl (by decide) (by decide) (by decide) (by decide) ?_
          rintro _ _ ⟨rfl, rfl⟩
          try simp only [List.replicate_succ, List.replicate_zero, List.set_cons_zero, List.set_cons_succ, List.length_nil, List.length_cons, Nat.zero_add, Nat.reduceAdd, List.nil_append, List.cons_append]
          refine go_iload e0_224 rfl ?_
          refine go_iconst e0_226 (x := 1) rfl ?_
          refine go_isub e0_227 ?_
          refine go_iceqY e0_228 (tg := 233) (by decide) (by rw [hsl]; decide) ?_
          refine go_iconst e0_233 (x := 1) rfl ?_
          refine go_istore_8 e0_234 rfl ?_
          refine go_iconst e0_236 (x := 0) rfl ?_
          refine go_iload e0_237 rfl ?_
          refine go_icgeN e0_239 (tg := 267) (by decide) (by decide) ?_
          refine go_iload e0_242 rfl ?_
          refine go_ifeqN e0_244 (tg := 264) (by decide) (by decide) ?_
          refine go_aload e0_247 rfl rfl ?_
          refine go_iconst e0_249 (x := 0) rfl ?_
          refine go_virtual_1 e0_250 (wd 32 rfl) (wd 33 rfl) (wd 35 rfl) (wd 34 rfl) (wd 36 rfl) (wd 5 rfl) hy_6 pd_12 rfl (c_start hw (k := 0) rfl rfl (by decide) s0) rfl rfl 0 rfl (by decide) (by decide) (by decide) (by decide) ?_
          rintro _ _ ⟨rfl, rfl⟩
          try simp only [List.replicate_succ, List.replicate_zero, List.set_cons_zero, List.set_cons_succ, List.length_nil, List.length_cons, Nat.zero_add, Nat.reduceAdd, List.nil_append, List.cons_append]
          refine go_aload e0_253 rfl rfl ?_
          refine go_iconst e0_255 (x := 0) rfl ?_
          refine go_iaload e0_256 rfl (k := 0) (by decide) rfl ?_
          refine go_icneN e0_257 (tg := 264) (by decide) (by decide) ?_
          refine go_iconst e0_260 (x := 1) rfl ?_
          refine go_goto e0_261 (tg := 265) (by decide) ?_
          refine go_istore_8 e0_265 rfl ?_
          refine go_iconst e0_267 (x := 1) rfl ?_
          refine go_iload e0_268 rfl ?_
          refine go_icgeN e0_270 (tg := 298) (by decide) (by decide) ?_
          refine go_iload e0_273 rfl ?_
          refine go_ifeqN e0_275 (tg := 295) (by decide) (by decide) ?_
          refine go_aload e0_278 rfl rfl ?_
          refine go_iconst e0_280 (x := 1) rfl ?_
          refine go_virtual_1 e0_281 (wd 32 rfl) (wd 33 rfl) (wd 35 rfl) (wd 34 rfl) (wd 36 rfl) (wd 5 rfl) hy_6 pd_12 rfl (c_start hw (k := 1) rfl rfl (by decide) s1) rfl rfl 0 rfl (by decide) (by decide) (by decide) (by decide) ?_
          rintro _ _ ⟨rfl, rfl⟩
          try simp only [List.replicate_succ, List.replicate_zero, List.set_cons_zero, List.set_cons_succ, List.length_nil, List.length_cons, Nat.zero_add, Nat.reduceAdd, List.nil_append, List.cons_append]
          refine go_aload e0_284 rfl rfl ?_
          refine go_iconst e0_286 (x := 1) rfl ?_
          refine go_iaload e0_287 rfl (k := 1) (by decide) rfl ?_
          refine go_icneN e0_288 (tg := 295) (by decide) (by decide) ?_
          refine go_iconst e0_291 (x := 1) rfl ?_
          refine go_goto e0_292 (tg := 296) (by decide) ?_
          refine go_istore_8 e0_296 rfl ?_
          refine go_iconst e0_298 (x := 2) rfl ?_
          refine go_iload e0_299 rfl ?_
          refine go_icgeN e0_301 (tg := 329) (by decide) (by decide) ?_
          refine go_iload e0_304 rfl ?_
          refine go_ifeqN e0_306 (tg := 326) (by decide) (by decide) ?_
          refine go_aload e0_309 rfl rfl ?_
          refine go_iconst e0_311 (x := 2) rfl ?_
          refine go_virtual_1 e0_312 (wd 32 rfl) (wd 33 rfl) (wd 35 rfl) (wd 34 rfl) (wd 36 rfl) (wd 5 rfl) hy_6 pd_12 rfl (c_start hw (k := 2) rfl rfl (by decide) s2) rfl rfl 0 rfl (by decide) (by decide) (by decide) (by decide) ?_
          rintro _ _ ⟨rfl, rfl⟩
          try simp only [List.replicate_succ, List.replicate_zero, List.set_cons_zero, List.set_cons_succ, List.length_nil, List.length_cons, Nat.zero_add, Nat.reduceAdd, List.nil_append, List.cons_append]
          refine go_aload e0_315 rfl rfl ?_
          refine go_iconst e0_317 (x := 2) rfl ?_
          refine go_iaload e0_318 rfl (k := 2) (by decide) rfl ?_
          refine go_icneN e0_319 (tg := 326) (by decide) (by decide) ?_
          refine go_iconst e0_322 (x := 1) rfl ?_
          refine go_goto e0_323 (tg := 327) (by decide) ?_
          refine go_istore_8 e0_327 rfl ?_
          refine go_iconst e0_329 (x := 3) rfl ?_
          refine go_iload e0_330 rfl ?_
          refine go_icgeY e0_332 (tg := 360) (by decide) (by decide) ?_
          refine go_iconst e0_360 (x := 4) rfl ?_
          refine go_iload e0_361 rfl ?_
          refine go_icgeY e0_363 (tg := 391) (by decide) (by decide) ?_
          refine go_iload e0_391 rfl ?_
          refine go_zreturn e0_393 rfl (by decide) (by decide) (by decide) ?_
          exact rfl
        · intro c141
          refine go_aload e0_144 rfl rfl ?_
          refine go_iload e0_146 rfl ?_
          refine go_iconst e0_148 (x := 3) rfl ?_
          refine go_iastore e0_149 rfl (k := 2) (by decide) (Nat.le_of_ble_eq_true rfl) ?_
          simp only [List.replicate_succ, List.replicate_zero, List.set_cons_zero, List.set_cons_succ, List.length_nil, List.length_cons, Nat.zero_add, Nat.reduceAdd, List.nil_append, List.cons_append]
          refine go_iinc_6 e0_150 (z := 1) rfl ?_
          refine go_iloadN e0_153 rfl ?_
          refine go_iconst e0_154 (x := 3) rfl ?_
          refine go_icleY e0_155 (tg := 176) (by decide) (by decide) ?_
          refine go_iloadN e0_176 rfl ?_
          refine go_ifleN e0_177 (tg := 200) (by decide) (by decide) ?_
          refine go_aload e0_180 rfl rfl ?_
          refine go_iloadN e0_182 rfl ?_
          refine go_iconst e0_183 (x := 1) rfl ?_
          refine go_isub e0_184 ?_
          refine go_baload e0_185 rfl (k := 2) (by decide) rfl ?_
          refine go_bipush e0_186 (x := 10) rfl ?_
          refine go_iceqY e0_188 (tg := 200) (by decide) c141 ?_
          refine go_aload e0_200 rfl rfl ?_
          refine go_static_1 e0_202 (wd 3 rfl) (wd 4 rfl) (wd 6 rfl) (wd 5 rfl) hy_6 pd_9 rfl (c_of hw (n := 3) (xs := [x0, x1, x2]) rfl rfl (by decide)) rfl 0 rfl (by decide) (by decide) (by decide) (by decide) ?_
          rintro _ _ ⟨rfl, st, c0, rfl, hc, hsl, hst, hsc⟩
          have hb0 : own_b [x0, x1, x2] 0 = 0 := own_bno (rfl : ([x0, x1, x2] : List Int32)[0]? = some x0) c95
          have hb1 : own_b [x0, x1, x2] 1 = 1 := own_byes (rfl : ([x0, x1, x2] : List Int32)[1]? = some x1) c118
          have hb2 : own_b [x0, x1, x2] 2 = 1 := own_byes (rfl : ([x0, x1, x2] : List Int32)[2]? = some x2) c141
          obtain rfl : c0 = 2 := by
            simp [own_c, own_last, hb0, hb1, hb2] at hc
            omega
          have s0 : st[0]? = some (N2I 0) := hst 0 0 (by decide) (by simp [own_lf, hb0, hb1, hb2])
          have s1 : st[1]? = some (N2I 2) := hst 1 2 (by decide) (by simp [own_lf, hb0, hb1, hb2])
          have s2 : st[2]? = some (N2I 3) := hsc
          try simp only [List.replicate_succ, List.replicate_zero, List.set_cons_zero, List.set_cons_succ, List.length_nil, List.length_cons, Nat.zero_add, Nat.reduceAdd, List.nil_append, List.cons_append]
          refine go_astore_7 e0_205 rfl rfl ?_
          refine go_aload e0_207 rfl rfl ?_
          refine go_virtual_0 e0_209 (wd 22 rfl) (wd 23 rfl) (wd 25 rfl) (wd 24 rfl) (wd 26 rfl) (wd 5 rfl) hy_6 pd_10 rfl (c_data hw rfl) rfl rfl 0 rfl (by decide) (by decide) (by decide) (by decide) ?_
          rintro _ _ ⟨rfl, rfl⟩
          try simp only [List.replicate_succ, List.replicate_zero, List.set_cons_zero, List.set_cons_succ, List.length_nil, List.length_cons, Nat.zero_add, Nat.reduceAdd, List.nil_append, List.cons_append]
          refine go_aload e0_212 rfl rfl ?_
          refine go_acmp e0_214 rfl rfl (same := true) rfl (tg := 219) (by decide) ?_
          show Go C 219 _ _ _ _ _
          refine go_aload e0_219 rfl rfl ?_
          refine go_virtual_0 e0_221 (wd 27 rfl) (wd 28 rfl) (wd 30 rfl) (wd 29 rfl) (wd 31 rfl) (wd 5 rfl) hy_6 pd_11 rfl (c_cnt hw rfl rfl) rfl rfl 0 rfl (by decide) (by decide) (by decide) (by decide) ?_
          rintro _ _ ⟨rfl, rfl⟩
          try simp only [List.replicate_succ, List.replicate_zero, List.set_cons_zero, List.set_cons_succ, List.length_nil, List.length_cons, Nat.zero_add, Nat.reduceAdd, List.nil_append, List.cons_append]
          refine go_iload e0_224 rfl ?_
          refine go_iconst e0_226 (x := 1) rfl ?_
          refine go_isub e0_227 ?_
          refine go_iceqY e0_228 (tg := 233) (by decide) (by rw [hsl]; decide) ?_
          refine go_iconst e0_233 (x := 1) rfl ?_
          refine go_istore_8 e0_234 rfl ?_
          refine go_iconst e0_236 (x := 0) rfl ?_
          refine go_iload e0_237 rfl ?_
          refine go_icgeN e0_239 (tg := 267) (by decide) (by decide) ?_
          refine go_iload e0_242 rfl ?_
          refine go_ifeqN e0_244 (tg := 264) (by decide) (by decide) ?_
          refine go_aload e0_247 rfl rfl ?_
          refine go_iconst e0_249 (x := 0) rfl ?_
          refine go_virtual_1 e0_250 (wd 32 rfl) (wd 33 rfl) (wd 35 rfl) (wd 34 rfl) (wd 36 rfl) (wd 5 rfl) hy_6 pd_12 rfl (c_start hw (k := 0) rfl rfl (by decide) s0) rfl rfl 0 rfl (by decide) (by decide) (by decide) (by decide) ?_
          rintro _ _ ⟨rfl, rfl⟩
          try simp only [List.replicate_succ, List.replicate_zero, List.set_cons_zero, List.set_cons_succ, List.length_nil, List.length_cons, Nat.zero_add, Nat.reduceAdd, List.nil_append, List.cons_append]
          refine go_aload e0_253 rfl rfl ?_
          refine go_iconst e0_255 (x := 0) rfl ?_
          refine go_iaload e0_256 rfl (k := 0) (by decide) rfl ?_
          refine go_icneN e0_257 (tg := 264) (by decide) (by decide) ?_
          refine go_iconst e0_260 (x := 1) rfl ?_
          refine go_goto e0_261 (tg := 265) (by decide) ?_
          refine go_istore_8 e0_265 rfl ?_
          refine go_iconst e0_267 (x := 1) rfl ?_
          refine go_iload e0_268 rfl ?_
          refine go_icgeN e0_270 (tg := 298) (by decide) (by decide) ?_
          refine go_iload e0_273 rfl ?_
          refine go_ifeqN e0_275 (tg := 295) (by decide) (by decide) ?_
          refine go_aload e0_278 rfl rfl ?_
          refine go_iconst e0_280 (x := 1) rfl ?_
          refine go_virtual_1 e0_281 (wd 32 rfl) (wd 33 rfl) (wd 35 rfl) (wd 34 rfl) (wd 36 rfl) (wd 5 rfl) hy_6 pd_12 rfl (c_start hw (k := 1) rfl rfl (by decide) s1) rfl rfl 0 rfl (by decide) (by decide) (by decide) (by decide) ?_
          rintro _ _ ⟨rfl, rfl⟩
          try simp only [List.replicate_succ, List.replicate_zero, List.set_cons_zero, List.set_cons_succ, List.length_nil, List.length_cons, Nat.zero_add, Nat.reduceAdd, List.nil_append, List.cons_append]
          refine go_aload e0_284 rfl rfl ?_
          refine go_iconst e0_286 (x := 1) rfl ?_
          refine go_iaload e0_287 rfl (k := 1) (by decide) rfl ?_
          refine go_icneN e0_288 (tg := 295) (by decide) (by decide) ?_
          refine go_iconst e0_291 (x := 1) rfl ?_
          refine go_goto e0_292 (tg := 296) (by decide) ?_
          refine go_istore_8 e0_296 rfl ?_
          refine go_iconst e0_298 (x := 2) rfl ?_
          refine go_iload e0_299 rfl ?_
          refine go_icgeN e0_301 (tg := 329) (by decide) (by decide) ?_
          refine go_iload e0_304 rfl ?_
          refine go_ifeqN e0_306 (tg := 326) (by decide) (by decide) ?_
          refine go_aload e0_309 rfl rfl ?_
          refine go_iconst e0_311 (x := 2) rfl ?_
          refine go_virtual_1 e0_312 (wd 32 rfl) (wd 33 rfl) (wd 35 rfl) (wd 34 rfl) (wd 36 rfl) (wd 5 rfl) hy_6 pd_12 rfl (c_start hw (k := 2) rfl rfl (by decide) s2) rfl rfl 0 rfl (by decide) (by decide) (by decide) (by decide) ?_
          rintro _ _ ⟨rfl, rfl⟩
          try simp only [List.replicate_succ, List.replicate_zero, List.set_cons_zero, List.set_cons_succ, List.length_nil, List.length_cons, Nat.zero_add, Nat.reduceAdd, List.nil_append, List.cons_append]
          refine go_aload e0_315 rfl rfl ?_
          refine go_iconst e0_317 (x := 2) rfl ?_
          refine go_iaload e0_318 rfl (k := 2) (by decide) rfl ?_
          refine go_icneN e0_319 (tg := 326) (by decide) (by decide) ?_
          refine go_iconst e0_322 (x := 1) rfl ?_
          refine go_goto e0_323 (tg := 327) (by decide) ?_
          refine go_istore_8 e0_327 rfl ?_
          refine go_iconst e0_329 (x := 3) rfl ?_
          refine go_iload e0_330 rfl ?_
          refine go_icgeY e0_332 (tg := 360) (by decide) (by decide) ?_
          refine go_iconst e0_360 (x := 4) rfl ?_
          refine go_iload e0_361 rfl ?_
          refine go_icgeY e0_363 (tg := 391) (by decide) (by decide) ?_
          refine go_iload e0_391 rfl ?_
          refine go_zreturn e0_393 rfl (by decide) (by decide) (by decide) ?_
          exact rfl
    · intro c95
      refine go_aload e0_98 rfl rfl ?_
      refine go_iload e0_100 rfl ?_
      refine go_iconst e0_102 (x := 1) rfl ?_
      refine go_iastore e0_103 rfl (k := 1) (by decide) (Nat.le_of_ble_eq_true rfl) ?_
      simp only [List.replicate_succ, List.replicate_zero, List.set_cons_zero, List.set_cons_succ, List.length_nil, List.length_cons, Nat.zero_add, Nat.reduceAdd, List.nil_append, List.cons_append]
      refine go_iinc_6 e0_104 (z := 1) rfl ?_
      refine go_iloadN e0_107 rfl ?_
      refine go_iconst e0_108 (x := 1) rfl ?_
      refine go_icleN e0_109 (tg := 130) (by decide) (by decide) ?_
      refine go_aload e0_112 rfl rfl ?_
      refine go_iconst e0_114 (x := 1) rfl ?_
      refine go_baload e0_115 rfl (k := 1) (by decide) rfl ?_
      refine go_bipush e0_116 (x := 10) rfl ?_
      refine go_icne e0_118 (tg := 130) (by decide) ?_ ?_
      · intro c118
        refine go_iloadN e0_130 rfl ?_
        refine go_iconst e0_131 (x := 2) rfl ?_
        refine go_icleN e0_132 (tg := 153) (by decide) (by decide) ?_
        refine go_aload e0_135 rfl rfl ?_
        refine go_iconst e0_137 (x := 2) rfl ?_
        refine go_baload e0_138 rfl (k := 2) (by decide) rfl ?_
        refine go_bipush e0_139 (x := 10) rfl ?_
        refine go_icne e0_141 (tg := 153) (by decide) ?_ ?_
        · intro c141
          refine go_iloadN e0_153 rfl ?_
          refine go_iconst e0_154 (x := 3) rfl ?_
          refine go_icleY e0_155 (tg := 176) (by decide) (by decide) ?_
          refine go_iloadN e0_176 rfl ?_
          refine go_ifleN e0_177 (tg := 200) (by decide) (by decide) ?_
          refine go_aload e0_180 rfl rfl ?_
          refine go_iloadN e0_182 rfl ?_
          refine go_iconst e0_183 (x := 1) rfl ?_
          refine go_isub e0_184 ?_
          refine go_baload e0_185 rfl (k := 2) (by decide) rfl ?_
          refine go_bipush e0_186 (x := 10) rfl ?_
          refine go_iceqN e0_188 (tg := 200) (by decide) c141 ?_
          refine go_aload e0_191 rfl rfl ?_
          refine go_iload e0_193 rfl ?_
          refine go_iloadN e0_195 rfl ?_
          refine go_iastore e0_196 rfl (k := 2) (by decide) (Nat.le_of_ble_eq_true rfl) ?_
          simp only [List.replicate_succ, List.replicate_zero, List.set_cons_zero, List.set_cons_succ, List.length_nil, List.length_cons, Nat.zero_add, Nat.reduceAdd, List.nil_append, List.cons_append]
          refine go_iinc_6 e0_197 (z := 1) rfl ?_
          refine go_aload e0_200 rfl rfl ?_
          refine go_static_1 e0_202 (wd 3 rfl) (wd 4 rfl) (wd 6 rfl) (wd 5 rfl) hy_6 pd_9 rfl (c_of hw (n := 3) (xs := [x0, x1, x2]) rfl rfl (by decide)) rfl 0 rfl (by decide) (by decide) (by decide) (by decide) ?_
          rintro _ _ ⟨rfl, st, c0, rfl, hc, hsl, hst, hsc⟩
          have hb0 : own_b [x0, x1, x2] 0 = 1 := own_byes (rfl : ([x0, x1, x2] : List Int32)[0]? = some x0) c95
          have hb1 : own_b [x0, x1, x2] 1 = 0 := own_bno (rfl : ([x0, x1, x2] : List Int32)[1]? = some x1) c118
          have hb2 : own_b [x0, x1, x2] 2 = 0 := own_bno (rfl : ([x0, x1, x2] : List Int32)[2]? = some x2) c141
          obtain rfl : c0 = 2 := by
            simp [own_c, own_last, hb0, hb1, hb2] at hc
            omega
          have s0 : st[0]? = some (N2I 0) := hst 0 0 (by decide) (by simp [own_lf, hb0, hb1, hb2])
          have s1 : st[1]? = some (N2I 1) := hst 1 1 (by decide) (by simp [own_lf, hb0, hb1, hb2])
          have s2 : st[2]? = some (N2I 3) := hsc
          try simp only [List.replicate_succ, List.replicate_zero, List.set_cons_zero, List.set_cons_succ, List.length_nil, List.length_cons, Nat.zero_add, Nat.reduceAdd, List.nil_append, List.cons_append]
          refine go_astore_7 e0_205 rfl rfl ?_
          refine go_aload e0_207 rfl rfl ?_
          refine go_virtual_0 e0_209 (wd 22 rfl) (wd 23 rfl) (wd 25 rfl) (wd 24 rfl) (wd 26 rfl) (wd 5 rfl) hy_6 pd_10 rfl (c_data hw rfl) rfl rfl 0 rfl (by decide) (by decide) (by decide) (by decide) ?_
          rintro _ _ ⟨rfl, rfl⟩
          try simp only [List.replicate_succ, List.replicate_zero, List.set_cons_zero, List.set_cons_succ, List.length_nil, List.length_cons, Nat.zero_add, Nat.reduceAdd, List.nil_append, List.cons_append]
          refine go_aload e0_212 rfl rfl ?_
          refine go_acmp e0_214 rfl rfl (same := true) rfl (tg := 219) (by decide) ?_
          show Go C 219 _ _ _ _ _
          refine go_aload e0_219 rfl rfl ?_
          refine go_virtual_0 e0_221 (wd 27 rfl) (wd 28 rfl) (wd 30 rfl) (wd 29 rfl) (wd 31 rfl) (wd 5 rfl) hy_6 pd_11 rfl (c_cnt hw rfl rfl) rfl rfl 0 rfl (by decide) (by decide) (by decide) (by decide) ?_
          rintro _ _ ⟨rfl, rfl⟩
          try simp only [List.replicate_succ, List.replicate_zero, List.set_cons_zero, List.set_cons_succ, List.length_nil, List.length_cons, Nat.zero_add, Nat.reduceAdd, List.nil_append, List.cons_append]
          refine go_iload e0_224 rfl ?_
          refine go_iconst e0_226 (x := 1) rfl ?_
          refine go_isub e0_227 ?_
          refine go_iceqY e0_228 (tg := 233) (by decide) (by rw [hsl]; decide) ?_
          refine go_iconst e0_233 (x := 1) rfl ?_
          refine go_istore_8 e0_234 rfl ?_
          refine go_iconst e0_236 (x := 0) rfl ?_
          refine go_iload e0_237 rfl ?_
          refine go_icgeN e0_239 (tg := 267) (by decide) (by decide) ?_
          refine go_iload e0_242 rfl ?_
          refine go_ifeqN e0_244 (tg := 264) (by decide) (by decide) ?_
          refine go_aload e0_247 rfl rfl ?_
          refine go_iconst e0_249 (x := 0) rfl ?_
          refine go_virtual_1 e0_250 (wd 32 rfl) (wd 33 rfl) (wd 35 rfl) (wd 34 rfl) (wd 36 rfl) (wd 5 rfl) hy_6 pd_12 rfl (c_start hw (k := 0) rfl rfl (by decide) s0) rfl rfl 0 rfl (by decide) (by decide) (by decide) (by decide) ?_
          rintro _ _ ⟨rfl, rfl⟩
          try simp only [List.replicate_succ, List.replicate_zero, List.set_cons_zero, List.set_cons_succ, List.length_nil, List.length_cons, Nat.zero_add, Nat.reduceAdd, List.nil_append, List.cons_append]
          refine go_aload e0_253 rfl rfl ?_
          refine go_iconst e0_255 (x := 0) rfl ?_
          refine go_iaload e0_256 rfl (k := 0) (by decide) rfl ?_
          refine go_icneN e0_257 (tg := 264) (by decide) (by decide) ?_
          refine go_iconst e0_260 (x := 1) rfl ?_
          refine go_goto e0_261 (tg := 265) (by decide) ?_
          refine go_istore_8 e0_265 rfl ?_
          refine go_iconst e0_267 (x := 1) rfl ?_
          refine go_iload e0_268 rfl ?_
          refine go_icgeN e0_270 (tg := 298) (by decide) (by decide) ?_
          refine go_iload e0_273 rfl ?_
          refine go_ifeqN e0_275 (tg := 295) (by decide) (by decide) ?_
          refine go_aload e0_278 rfl rfl ?_
          refine go_iconst e0_280 (x := 1) rfl ?_
          refine go_virtual_1 e0_281 (wd 32 rfl) (wd 33 rfl) (wd 35 rfl) (wd 34 rfl) (wd 36 rfl) (wd 5 rfl) hy_6 pd_12 rfl (c_start hw (k := 1) rfl rfl (by decide) s1) rfl rfl 0 rfl (by decide) (by decide) (by decide) (by decide) ?_
          rintro _ _ ⟨rfl, rfl⟩
          try simp only [List.replicate_succ, List.replicate_zero, List.set_cons_zero, List.set_cons_succ, List.length_nil, List.length_cons, Nat.zero_add, Nat.reduceAdd, List.nil_append, List.cons_append]
          refine go_aload e0_284 rfl rfl ?_
          refine go_iconst e0_286 (x := 1) rfl ?_
          refine go_iaload e0_287 rfl (k := 1) (by decide) rfl ?_
          refine go_icneN e0_288 (tg := 295) (by decide) (by decide) ?_
          refine go_iconst e0_291 (x := 1) rfl ?_
          refine go_goto e0_292 (tg := 296) (by decide) ?_
          refine go_istore_8 e0_296 rfl ?_
          refine go_iconst e0_298 (x := 2) rfl ?_
          refine go_iload e0_299 rfl ?_
          refine go_icgeN e0_301 (tg := 329) (by decide) (by decide) ?_
          refine go_iload e0_304 rfl ?_
          refine go_ifeqN e0_306 (tg := 326) (by decide) (by decide) ?_
          refine go_aload e0_309 rfl rfl ?_
          refine go_iconst e0_311 (x := 2) rfl ?_
          refine go_virtual_1 e0_312 (wd 32 rfl) (wd 33 rfl) (wd 35 rfl) (wd 34 rfl) (wd 36 rfl) (wd 5 rfl) hy_6 pd_12 rfl (c_start hw (k := 2) rfl rfl (by decide) s2) rfl rfl 0 rfl (by decide) (by decide) (by decide) (by decide) ?_
          rintro _ _ ⟨rfl, rfl⟩
          try simp only [List.replicate_succ, List.replicate_zero, List.set_cons_zero, List.set_cons_succ, List.length_nil, List.length_cons, Nat.zero_add, Nat.reduceAdd, List.nil_append, List.cons_append]
          refine go_aload e0_315 rfl rfl ?_
          refine go_iconst e0_317 (x := 2) rfl ?_
          refine go_iaload e0_318 rfl (k := 2) (by decide) rfl ?_
          refine go_icneN e0_319 (tg := 326) (by decide) (by decide) ?_
          refine go_iconst e0_322 (x := 1) rfl ?_
          refine go_goto e0_323 (tg := 327) (by decide) ?_
          refine go_istore_8 e0_327 rfl ?_
          refine go_iconst e0_329 (x := 3) rfl ?_
          refine go_iload e0_330 rfl ?_
          refine go_icgeY e0_332 (tg := 360) (by decide) (by decide) ?_
          refine go_iconst e0_360 (x := 4) rfl ?_
          refine go_iload e0_361 rfl ?_
          refine go_icgeY e0_363 (tg := 391) (by decide) (by decide) ?_
          refine go_iload e0_391 rfl ?_
          refine go_zreturn e0_393 rfl (by decide) (by decide) (by decide) ?_
          exact rfl
        · intro c141
          refine go_aload e0_144 rfl rfl ?_
          refine go_iload e0_146 rfl ?_
          refine go_iconst e0_148 (x := 3) rfl ?_
          refine go_iastore e0_149 rfl (k := 2) (by decide) (Nat.le_of_ble_eq_true rfl) ?_
          simp only [List.replicate_succ, List.replicate_zero, List.set_cons_zero, List.set_cons_succ, List.length_nil, List.length_cons, Nat.zero_add, Nat.reduceAdd, List.nil_append, List.cons_append]
          refine go_iinc_6 e0_150 (z := 1) rfl ?_
          refine go_iloadN e0_153 rfl ?_
          refine go_iconst e0_154 (x := 3) rfl ?_
          refine go_icleY e0_155 (tg := 176) (by decide) (by decide) ?_
          refine go_iloadN e0_176 rfl ?_
          refine go_ifleN e0_177 (tg := 200) (by decide) (by decide) ?_
          refine go_aload e0_180 rfl rfl ?_
          refine go_iloadN e0_182 rfl ?_
          refine go_iconst e0_183 (x := 1) rfl ?_
          refine go_isub e0_184 ?_
          refine go_baload e0_185 rfl (k := 2) (by decide) rfl ?_
          refine go_bipush e0_186 (x := 10) rfl ?_
          refine go_iceqY e0_188 (tg := 200) (by decide) c141 ?_
          refine go_aload e0_200 rfl rfl ?_
          refine go_static_1 e0_202 (wd 3 rfl) (wd 4 rfl) (wd 6 rfl) (wd 5 rfl) hy_6 pd_9 rfl (c_of hw (n := 3) (xs := [x0, x1, x2]) rfl rfl (by decide)) rfl 0 rfl (by decide) (by decide) (by decide) (by decide) ?_
          rintro _ _ ⟨rfl, st, c0, rfl, hc, hsl, hst, hsc⟩
          have hb0 : own_b [x0, x1, x2] 0 = 1 := own_byes (rfl : ([x0, x1, x2] : List Int32)[0]? = some x0) c95
          have hb1 : own_b [x0, x1, x2] 1 = 0 := own_bno (rfl : ([x0, x1, x2] : List Int32)[1]? = some x1) c118
          have hb2 : own_b [x0, x1, x2] 2 = 1 := own_byes (rfl : ([x0, x1, x2] : List Int32)[2]? = some x2) c141
          obtain rfl : c0 = 2 := by
            simp [own_c, own_last, hb0, hb1, hb2] at hc
            omega
          have s0 : st[0]? = some (N2I 0) := hst 0 0 (by decide) (by simp [own_lf, hb0, hb1, hb2])
          have s1 : st[1]? = some (N2I 1) := hst 1 1 (by decide) (by simp [own_lf, hb0, hb1, hb2])
          have s2 : st[2]? = some (N2I 3) := hsc
          try simp only [List.replicate_succ, List.replicate_zero, List.set_cons_zero, List.set_cons_succ, List.length_nil, List.length_cons, Nat.zero_add, Nat.reduceAdd, List.nil_append, List.cons_append]
          refine go_astore_7 e0_205 rfl rfl ?_
          refine go_aload e0_207 rfl rfl ?_
          refine go_virtual_0 e0_209 (wd 22 rfl) (wd 23 rfl) (wd 25 rfl) (wd 24 rfl) (wd 26 rfl) (wd 5 rfl) hy_6 pd_10 rfl (c_data hw rfl) rfl rfl 0 rfl (by decide) (by decide) (by decide) (by decide) ?_
          rintro _ _ ⟨rfl, rfl⟩
          try simp only [List.replicate_succ, List.replicate_zero, List.set_cons_zero, List.set_cons_succ, List.length_nil, List.length_cons, Nat.zero_add, Nat.reduceAdd, List.nil_append, List.cons_append]
          refine go_aload e0_212 rfl rfl ?_
          refine go_acmp e0_214 rfl rfl (same := true) rfl (tg := 219) (by decide) ?_
          show Go C 219 _ _ _ _ _
          refine go_aload e0_219 rfl rfl ?_
          refine go_virtual_0 e0_221 (wd 27 rfl) (wd 28 rfl) (wd 30 rfl) (wd 29 rfl) (wd 31 rfl) (wd 5 rfl) hy_6 pd_11 rfl (c_cnt hw rfl rfl) rfl rfl 0 rfl (by decide) (by decide) (by decide) (by decide) ?_
          rintro _ _ ⟨rfl, rfl⟩
          try simp only [List.replicate_succ, List.replicate_zero, List.set_cons_zero, List.set_cons_succ, List.length_nil, List.length_cons, Nat.zero_add, Nat.reduceAdd, List.nil_append, List.cons_append]
          refine go_iload e0_224 rfl ?_
          refine go_iconst e0_226 (x := 1) rfl ?_
          refine go_isub e0_227 ?_
          refine go_iceqY e0_228 (tg := 233) (by decide) (by rw [hsl]; decide) ?_
          refine go_iconst e0_233 (x := 1) rfl ?_
          refine go_istore_8 e0_234 rfl ?_
          refine go_iconst e0_236 (x := 0) rfl ?_
          refine go_iload e0_237 rfl ?_
          refine go_icgeN e0_239 (tg := 267) (by decide) (by decide) ?_
          refine go_iload e0_242 rfl ?_
          refine go_ifeqN e0_244 (tg := 264) (by decide) (by decide) ?_
          refine go_aload e0_247 rfl rfl ?_
          refine go_iconst e0_249 (x := 0) rfl ?_
          refine go_virtual_1 e0_250 (wd 32 rfl) (wd 33 rfl) (wd 35 rfl) (wd 34 rfl) (wd 36 rfl) (wd 5 rfl) hy_6 pd_12 rfl (c_start hw (k := 0) rfl rfl (by decide) s0) rfl rfl 0 rfl (by decide) (by decide) (by decide) (by decide) ?_
          rintro _ _ ⟨rfl, rfl⟩
          try simp only [List.replicate_succ, List.replicate_zero, List.set_cons_zero, List.set_cons_succ, List.length_nil, List.length_cons, Nat.zero_add, Nat.reduceAdd, List.nil_append, List.cons_append]
          refine go_aload e0_253 rfl rfl ?_
          refine go_iconst e0_255 (x := 0) rfl ?_
          refine go_iaload e0_256 rfl (k := 0) (by decide) rfl ?_
          refine go_icneN e0_257 (tg := 264) (by decide) (by decide) ?_
          refine go_iconst e0_260 (x := 1) rfl ?_
          refine go_goto e0_261 (tg := 265) (by decide) ?_
          refine go_istore_8 e0_265 rfl ?_
          refine go_iconst e0_267 (x := 1) rfl ?_
          refine go_iload e0_268 rfl ?_
          refine go_icgeN e0_270 (tg := 298) (by decide) (by decide) ?_
          refine go_iload e0_273 rfl ?_
          refine go_ifeqN e0_275 (tg := 295) (by decide) (by decide) ?_
          refine go_aload e0_278 rfl rfl ?_
          refine go_iconst e0_280 (x := 1) rfl ?_
          refine go_virtual_1 e0_281 (wd 32 rfl) (wd 33 rfl) (wd 35 rfl) (wd 34 rfl) (wd 36 rfl) (wd 5 rfl) hy_6 pd_12 rfl (c_start hw (k := 1) rfl rfl (by decide) s1) rfl rfl 0 rfl (by decide) (by decide) (by decide) (by decide) ?_
          rintro _ _ ⟨rfl, rfl⟩
          try simp only [List.replicate_succ, List.replicate_zero, List.set_cons_zero, List.set_cons_succ, List.length_nil, List.length_cons, Nat.zero_add, Nat.reduceAdd, List.nil_append, List.cons_append]
          refine go_aload e0_284 rfl rfl ?_
          refine go_iconst e0_286 (x := 1) rfl ?_
          refine go_iaload e0_287 rfl (k := 1) (by decide) rfl ?_
          refine go_icneN e0_288 (tg := 295) (by decide) (by decide) ?_
          refine go_iconst e0_291 (x := 1) rfl ?_
          refine go_goto e0_292 (tg := 296) (by decide) ?_
          refine go_istore_8 e0_296 rfl ?_
          refine go_iconst e0_298 (x := 2) rfl ?_
          refine go_iload e0_299 rfl ?_
          refine go_icgeN e0_301 (tg := 329) (by decide) (by decide) ?_
          refine go_iload e0_304 rfl ?_
          refine go_ifeqN e0_306 (tg := 326) (by decide) (by decide) ?_
          refine go_aload e0_309 rfl rfl ?_
          refine go_iconst e0_311 (x := 2) rfl ?_
          refine go_virtual_1 e0_312 (wd 32 rfl) (wd 33 rfl) (wd 35 rfl) (wd 34 rfl) (wd 36 rfl) (wd 5 rfl) hy_6 pd_12 rfl (c_start hw (k := 2) rfl rfl (by decide) s2) rfl rfl 0 rfl (by decide) (by decide) (by decide) (by decide) ?_
          rintro _ _ ⟨rfl, rfl⟩
          try simp only [List.replicate_succ, List.replicate_zero, List.set_cons_zero, List.set_cons_succ, List.length_nil, List.length_cons, Nat.zero_add, Nat.reduceAdd, List.nil_append, List.cons_append]
          refine go_aload e0_315 rfl rfl ?_
          refine go_iconst e0_317 (x := 2) rfl ?_
          refine go_iaload e0_318 rfl (k := 2) (by decide) rfl ?_
          refine go_icneN e0_319 (tg := 326) (by decide) (by decide) ?_
          refine go_iconst e0_322 (x := 1) rfl ?_
          refine go_goto e0_323 (tg := 327) (by decide) ?_
          refine go_istore_8 e0_327 rfl ?_
          refine go_iconst e0_329 (x := 3) rfl ?_
          refine go_iload e0_330 rfl ?_
          refine go_icgeY e0_332 (tg := 360) (by decide) (by decide) ?_
          refine go_iconst e0_360 (x := 4) rfl ?_
          refine go_iload e0_361 rfl ?_
          refine go_icgeY e0_363 (tg := 391) (by decide) (by decide) ?_
          refine go_iload e0_391 rfl ?_
          refine go_zreturn e0_393 rfl (by decide) (by decide) (by decide) ?_
          exact rfl
      · intro c118
        refine go_aload e0_121 rfl rfl ?_
        refine go_iload e0_123 rfl ?_
        refine go_iconst e0_125 (x := 2) rfl ?_
        refine go_iastore e0_126 rfl (k := 2) (by decide) (Nat.le_of_ble_eq_true rfl) ?_
        simp only [List.replicate_succ, List.replicate_zero, List.set_cons_zero, List.set_cons_succ, List.length_nil, List.length_cons, Nat.zero_add, Nat.reduceAdd, List.nil_append, List.cons_append]
        refine go_iinc_6 e0_127 (z := 1) rfl ?_
        refine go_iloadN e0_130 rfl ?_
        refine go_iconst e0_131 (x := 2) rfl ?_
        refine go_icleN e0_132 (tg := 153) (by decide) (by decide) ?_
        refine go_aload e0_135 rfl rfl ?_
        refine go_iconst e0_137 (x := 2) rfl ?_
        refine go_baload e0_138 rfl (k := 2) (by decide) rfl ?_
        refine go_bipush e0_139 (x := 10) rfl ?_
        refine go_icne e0_141 (tg := 153) (by decide) ?_ ?_
        · intro c141
          refine go_iloadN e0_153 rfl ?_
          refine go_iconst e0_154 (x := 3) rfl ?_
          refine go_icleY e0_155 (tg := 176) (by decide) (by decide) ?_
          refine go_iloadN e0_176 rfl ?_
          refine go_ifleN e0_177 (tg := 200) (by decide) (by decide) ?_
          refine go_aload e0_180 rfl rfl ?_
          refine go_iloadN e0_182 rfl ?_
          refine go_iconst e0_183 (x := 1) rfl ?_
          refine go_isub e0_184 ?_
          refine go_baload e0_185 rfl (k := 2) (by decide) rfl ?_
          refine go_bipush e0_186 (x := 10) rfl ?_
          refine go_iceqN e0_188 (tg := 200) (by decide) c141 ?_
          refine go_aload e0_191 rfl rfl ?_
          refine go_iload e0_193 rfl ?_
          refine go_iloadN e0_195 rfl ?_
          refine go_iastore e0_196 rfl (k := 3) (by decide) (Nat.le_of_ble_eq_true rfl) ?_
          simp only [List.replicate_succ, List.replicate_zero, List.set_cons_zero, List.set_cons_succ, List.length_nil, List.length_cons, Nat.zero_add, Nat.reduceAdd, List.nil_append, List.cons_append]
          refine go_iinc_6 e0_197 (z := 1) rfl ?_
          refine go_aload e0_200 rfl rfl ?_
          refine go_static_1 e0_202 (wd 3 rfl) (wd 4 rfl) (wd 6 rfl) (wd 5 rfl) hy_6 pd_9 rfl (c_of hw (n := 3) (xs := [x0, x1, x2]) rfl rfl (by decide)) rfl 0 rfl (by decide) (by decide) (by decide) (by decide) ?_
          rintro _ _ ⟨rfl, st, c0, rfl, hc, hsl, hst, hsc⟩
          have hb0 : own_b [x0, x1, x2] 0 = 1 := own_byes (rfl : ([x0, x1, x2] : List Int32)[0]? = some x0) c95
          have hb1 : own_b [x0, x1, x2] 1 = 1 := own_byes (rfl : ([x0, x1, x2] : List Int32)[1]? = some x1) c118
          have hb2 : own_b [x0, x1, x2] 2 = 0 := own_bno (rfl : ([x0, x1, x2] : List Int32)[2]? = some x2) c141
          obtain rfl : c0 = 3 := by
            simp [own_c, own_last, hb0, hb1, hb2] at hc
            omega
          have s0 : st[0]? = some (N2I 0) := hst 0 0 (by decide) (by simp [own_lf, hb0, hb1, hb2])
          have s1 : st[1]? = some (N2I 1) := hst 1 1 (by decide) (by simp [own_lf, hb0, hb1, hb2])
          have s2 : st[2]? = some (N2I 2) := hst 2 2 (by decide) (by simp [own_lf, hb0, hb1, hb2])
          have s3 : st[3]? = some (N2I 3) := hsc
          try simp only [List.replicate_succ, List.replicate_zero, List.set_cons_zero, List.set_cons_succ, List.length_nil, List.length_cons, Nat.zero_add, Nat.reduceAdd, List.nil_append, List.cons_append]
          refine go_astore_7 e0_205 rfl rfl ?_
          refine go_aload e0_207 rfl rfl ?_
          refine go_virtual_0 e0_209 (wd 22 rfl) (wd 23 rfl) (wd 25 rfl) (wd 24 rfl) (wd 26 rfl) (wd 5 rfl) hy_6 pd_10 rfl (c_data hw rfl) rfl rfl 0 rfl (by decide) (by decide) (by decide) (by decide) ?_
          rintro _ _ ⟨rfl, rfl⟩
          try simp only [List.replicate_succ, List.replicate_zero, List.set_cons_zero, List.set_cons_succ, List.length_nil, List.length_cons, Nat.zero_add, Nat.reduceAdd, List.nil_append, List.cons_append]
          refine go_aload e0_212 rfl rfl ?_
          refine go_acmp e0_214 rfl rfl (same := true) rfl (tg := 219) (by decide) ?_
          show Go C 219 _ _ _ _ _
          refine go_aload e0_219 rfl rfl ?_
          refine go_virtual_0 e0_221 (wd 27 rfl) (wd 28 rfl) (wd 30 rfl) (wd 29 rfl) (wd 31 rfl) (wd 5 rfl) hy_6 pd_11 rfl (c_cnt hw rfl rfl) rfl rfl 0 rfl (by decide) (by decide) (by decide) (by decide) ?_
          rintro _ _ ⟨rfl, rfl⟩
          try simp only [List.replicate_succ, List.replicate_zero, List.set_cons_zero, List.set_cons_succ, List.length_nil, List.length_cons, Nat.zero_add, Nat.reduceAdd, List.nil_append, List.cons_append]
          refine go_iload e0_224 rfl ?_
          refine go_iconst e0_226 (x := 1) rfl ?_
          refine go_isub e0_227 ?_
          refine go_iceqY e0_228 (tg := 233) (by decide) (by rw [hsl]; decide) ?_
          refine go_iconst e0_233 (x := 1) rfl ?_
          refine go_istore_8 e0_234 rfl ?_
          refine go_iconst e0_236 (x := 0) rfl ?_
          refine go_iload e0_237 rfl ?_
          refine go_icgeN e0_239 (tg := 267) (by decide) (by decide) ?_
          refine go_iload e0_242 rfl ?_
          refine go_ifeqN e0_244 (tg := 264) (by decide) (by decide) ?_
          refine go_aload e0_247 rfl rfl ?_
          refine go_iconst e0_249 (x := 0) rfl ?_
          refine go_virtual_1 e0_250 (wd 32 rfl) (wd 33 rfl) (wd 35 rfl) (wd 34 rfl) (wd 36 rfl) (wd 5 rfl) hy_6 pd_12 rfl (c_start hw (k := 0) rfl rfl (by decide) s0) rfl rfl 0 rfl (by decide) (by decide) (by decide) (by decide) ?_
          rintro _ _ ⟨rfl, rfl⟩
          try simp only [List.replicate_succ, List.replicate_zero, List.set_cons_zero, List.set_cons_succ, List.length_nil, List.length_cons, Nat.zero_add, Nat.reduceAdd, List.nil_append, List.cons_append]
          refine go_aload e0_253 rfl rfl ?_
          refine go_iconst e0_255 (x := 0) rfl ?_
          refine go_iaload e0_256 rfl (k := 0) (by decide) rfl ?_
          refine go_icneN e0_257 (tg := 264) (by decide) (by decide) ?_
          refine go_iconst e0_260 (x := 1) rfl ?_
          refine go_goto e0_261 (tg := 265) (by decide) ?_
          refine go_istore_8 e0_265 rfl ?_
          refine go_iconst e0_267 (x := 1) rfl ?_
          refine go_iload e0_268 rfl ?_
          refine go_icgeN e0_270 (tg := 298) (by decide) (by decide) ?_
          refine go_iload e0_273 rfl ?_
          refine go_ifeqN e0_275 (tg := 295) (by decide) (by decide) ?_
          refine go_aload e0_278 rfl rfl ?_
          refine go_iconst e0_280 (x := 1) rfl ?_
          refine go_virtual_1 e0_281 (wd 32 rfl) (wd 33 rfl) (wd 35 rfl) (wd 34 rfl) (wd 36 rfl) (wd 5 rfl) hy_6 pd_12 rfl (c_start hw (k := 1) rfl rfl (by decide) s1) rfl rfl 0 rfl (by decide) (by decide) (by decide) (by decide) ?_
          rintro _ _ ⟨rfl, rfl⟩
          try simp only [List.replicate_succ, List.replicate_zero, List.set_cons_zero, List.set_cons_succ, List.length_nil, List.length_cons, Nat.zero_add, Nat.reduceAdd, List.nil_append, List.cons_append]
          refine go_aload e0_284 rfl rfl ?_
          refine go_iconst e0_286 (x := 1) rfl ?_
          refine go_iaload e0_287 rfl (k := 1) (by decide) rfl ?_
          refine go_icneN e0_288 (tg := 295) (by decide) (by decide) ?_
          refine go_iconst e0_291 (x := 1) rfl ?_
          refine go_goto e0_292 (tg := 296) (by decide) ?_
          refine go_istore_8 e0_296 rfl ?_
          refine go_iconst e0_298 (x := 2) rfl ?_
          refine go_iload e0_299 rfl ?_
          refine go_icgeN e0_301 (tg := 329) (by decide) (by decide) ?_
          refine go_iload e0_304 rfl ?_
          refine go_ifeqN e0_306 (tg := 326) (by decide) (by decide) ?_
          refine go_aload e0_309 rfl rfl ?_
          refine go_iconst e0_311 (x := 2) rfl ?_
          refine go_virtual_1 e0_312 (wd 32 rfl) (wd 33 rfl) (wd 35 rfl) (wd 34 rfl) (wd 36 rfl) (wd 5 rfl) hy_6 pd_12 rfl (c_start hw (k := 2) rfl rfl (by decide) s2) rfl rfl 0 rfl (by decide) (by decide) (by decide) (by decide) ?_
          rintro _ _ ⟨rfl, rfl⟩
          try simp only [List.replicate_succ, List.replicate_zero, List.set_cons_zero, List.set_cons_succ, List.length_nil, List.length_cons, Nat.zero_add, Nat.reduceAdd, List.nil_append, List.cons_append]
          refine go_aload e0_315 rfl rfl ?_
          refine go_iconst e0_317 (x := 2) rfl ?_
          refine go_iaload e0_318 rfl (k := 2) (by decide) rfl ?_
          refine go_icneN e0_319 (tg := 326) (by decide) (by decide) ?_
          refine go_iconst e0_322 (x := 1) rfl ?_
          refine go_goto e0_323 (tg := 327) (by decide) ?_
          refine go_istore_8 e0_327 rfl ?_
          refine go_iconst e0_329 (x := 3) rfl ?_
          refine go_iload e0_330 rfl ?_
          refine go_icgeN e0_332 (tg := 360) (by decide) (by decide) ?_
          refine go_iload e0_335 rfl ?_
          refine go_ifeqN e0_337 (tg := 357) (by decide) (by decide) ?_
          refine go_aload e0_340 rfl rfl ?_
          refine go_iconst e0_342 (x := 3) rfl ?_
          refine go_virtual_1 e0_343 (wd 32 rfl) (wd 33 rfl) (wd 35 rfl) (wd 34 rfl) (wd 36 rfl) (wd 5 rfl) hy_6 pd_12 rfl (c_start hw (k := 3) rfl rfl (by decide) s3) rfl rfl 0 rfl (by decide) (by decide) (by decide) (by decide) ?_
          rintro _ _ ⟨rfl, rfl⟩
          try simp only [List.replicate_succ, List.replicate_zero, List.set_cons_zero, List.set_cons_succ, List.length_nil, List.length_cons, Nat.zero_add, Nat.reduceAdd, List.nil_append, List.cons_append]
          refine go_aload e0_346 rfl rfl ?_
          refine go_iconst e0_348 (x := 3) rfl ?_
          refine go_iaload e0_349 rfl (k := 3) (by decide) rfl ?_
          refine go_icneN e0_350 (tg := 357) (by decide) (by decide) ?_
          refine go_iconst e0_353 (x := 1) rfl ?_
          refine go_goto e0_354 (tg := 358) (by decide) ?_
          refine go_istore_8 e0_358 rfl ?_
          refine go_iconst e0_360 (x := 4) rfl ?_
          refine go_iload e0_361 rfl ?_
          refine go_icgeY e0_363 (tg := 391) (by decide) (by decide) ?_
          refine go_iload e0_391 rfl ?_
          refine go_zreturn e0_393 rfl (by decide) (by decide) (by decide) ?_
          exact rfl
        · intro c141
          refine go_aload e0_144 rfl rfl ?_
          refine go_iload e0_146 rfl ?_
          refine go_iconst e0_148 (x := 3) rfl ?_
          refine go_iastore e0_149 rfl (k := 3) (by decide) (Nat.le_of_ble_eq_true rfl) ?_
          simp only [List.replicate_succ, List.replicate_zero, List.set_cons_zero, List.set_cons_succ, List.length_nil, List.length_cons, Nat.zero_add, Nat.reduceAdd, List.nil_append, List.cons_append]
          refine go_iinc_6 e0_150 (z := 1) rfl ?_
          refine go_iloadN e0_153 rfl ?_
          refine go_iconst e0_154 (x := 3) rfl ?_
          refine go_icleY e0_155 (tg := 176) (by decide) (by decide) ?_
          refine go_iloadN e0_176 rfl ?_
          refine go_ifleN e0_177 (tg := 200) (by decide) (by decide) ?_
          refine go_aload e0_180 rfl rfl ?_
          refine go_iloadN e0_182 rfl ?_
          refine go_iconst e0_183 (x := 1) rfl ?_
          refine go_isub e0_184 ?_
          refine go_baload e0_185 rfl (k := 2) (by decide) rfl ?_
          refine go_bipush e0_186 (x := 10) rfl ?_
          refine go_iceqY e0_188 (tg := 200) (by decide) c141 ?_
          refine go_aload e0_200 rfl rfl ?_
          refine go_static_1 e0_202 (wd 3 rfl) (wd 4 rfl) (wd 6 rfl) (wd 5 rfl) hy_6 pd_9 rfl (c_of hw (n := 3) (xs := [x0, x1, x2]) rfl rfl (by decide)) rfl 0 rfl (by decide) (by decide) (by decide) (by decide) ?_
          rintro _ _ ⟨rfl, st, c0, rfl, hc, hsl, hst, hsc⟩
          have hb0 : own_b [x0, x1, x2] 0 = 1 := own_byes (rfl : ([x0, x1, x2] : List Int32)[0]? = some x0) c95
          have hb1 : own_b [x0, x1, x2] 1 = 1 := own_byes (rfl : ([x0, x1, x2] : List Int32)[1]? = some x1) c118
          have hb2 : own_b [x0, x1, x2] 2 = 1 := own_byes (rfl : ([x0, x1, x2] : List Int32)[2]? = some x2) c141
          obtain rfl : c0 = 3 := by
            simp [own_c, own_last, hb0, hb1, hb2] at hc
            omega
          have s0 : st[0]? = some (N2I 0) := hst 0 0 (by decide) (by simp [own_lf, hb0, hb1, hb2])
          have s1 : st[1]? = some (N2I 1) := hst 1 1 (by decide) (by simp [own_lf, hb0, hb1, hb2])
          have s2 : st[2]? = some (N2I 2) := hst 2 2 (by decide) (by simp [own_lf, hb0, hb1, hb2])
          have s3 : st[3]? = some (N2I 3) := hsc
          try simp only [List.replicate_succ, List.replicate_zero, List.set_cons_zero, List.set_cons_succ, List.length_nil, List.length_cons, Nat.zero_add, Nat.reduceAdd, List.nil_append, List.cons_append]
          refine go_astore_7 e0_205 rfl rfl ?_
          refine go_aload e0_207 rfl rfl ?_
          refine go_virtual_0 e0_209 (wd 22 rfl) (wd 23 rfl) (wd 25 rfl) (wd 24 rfl) (wd 26 rfl) (wd 5 rfl) hy_6 pd_10 rfl (c_data hw rfl) rfl rfl 0 rfl (by decide) (by decide) (by decide) (by decide) ?_
          rintro _ _ ⟨rfl, rfl⟩
          try simp only [List.replicate_succ, List.replicate_zero, List.set_cons_zero, List.set_cons_succ, List.length_nil, List.length_cons, Nat.zero_add, Nat.reduceAdd, List.nil_append, List.cons_append]
          refine go_aload e0_212 rfl rfl ?_
          refine go_acmp e0_214 rfl rfl (same := true) rfl (tg := 219) (by decide) ?_
          show Go C 219 _ _ _ _ _
          refine go_aload e0_219 rfl rfl ?_
          refine go_virtual_0 e0_221 (wd 27 rfl) (wd 28 rfl) (wd 30 rfl) (wd 29 rfl) (wd 31 rfl) (wd 5 rfl) hy_6 pd_11 rfl (c_cnt hw rfl rfl) rfl rfl 0 rfl (by decide) (by decide) (by decide) (by decide) ?_
          rintro _ _ ⟨rfl, rfl⟩
          try simp only [List.replicate_succ, List.replicate_zero, List.set_cons_zero, List.set_cons_succ, List.length_nil, List.length_cons, Nat.zero_add, Nat.reduceAdd, List.nil_append, List.cons_append]
          refine go_iload e0_224 rfl ?_
          refine go_iconst e0_226 (x := 1) rfl ?_
          refine go_isub e0_227 ?_
          refine go_iceqY e0_228 (tg := 233) (by decide) (by rw [hsl]; decide) ?_
          refine go_iconst e0_233 (x := 1) rfl ?_
          refine go_istore_8 e0_234 rfl ?_
          refine go_iconst e0_236 (x := 0) rfl ?_
          refine go_iload e0_237 rfl ?_
          refine go_icgeN e0_239 (tg := 267) (by decide) (by decide) ?_
          refine go_iload e0_242 rfl ?_
          refine go_ifeqN e0_244 (tg := 264) (by decide) (by decide) ?_
          refine go_aload e0_247 rfl rfl ?_
          refine go_iconst e0_249 (x := 0) rfl ?_
          refine go_virtual_1 e0_250 (wd 32 rfl) (wd 33 rfl) (wd 35 rfl) (wd 34 rfl) (wd 36 rfl) (wd 5 rfl) hy_6 pd_12 rfl (c_start hw (k := 0) rfl rfl (by decide) s0) rfl rfl 0 rfl (by decide) (by decide) (by decide) (by decide) ?_
          rintro _ _ ⟨rfl, rfl⟩
          try simp only [List.replicate_succ, List.replicate_zero, List.set_cons_zero, List.set_cons_succ, List.length_nil, List.length_cons, Nat.zero_add, Nat.reduceAdd, List.nil_append, List.cons_append]
          refine go_aload e0_253 rfl rfl ?_
          refine go_iconst e0_255 (x := 0) rfl ?_
          refine go_iaload e0_256 rfl (k := 0) (by decide) rfl ?_
          refine go_icneN e0_257 (tg := 264) (by decide) (by decide) ?_
          refine go_iconst e0_260 (x := 1) rfl ?_
          refine go_goto e0_261 (tg := 265) (by decide) ?_
          refine go_istore_8 e0_265 rfl ?_
          refine go_iconst e0_267 (x := 1) rfl ?_
          refine go_iload e0_268 rfl ?_
          refine go_icgeN e0_270 (tg := 298) (by decide) (by decide) ?_
          refine go_iload e0_273 rfl ?_
          refine go_ifeqN e0_275 (tg := 295) (by decide) (by decide) ?_
          refine go_aload e0_278 rfl rfl ?_
          refine go_iconst e0_280 (x := 1) rfl ?_
          refine go_virtual_1 e0_281 (wd 32 rfl) (wd 33 rfl) (wd 35 rfl) (wd 34 rfl) (wd 36 rfl) (wd 5 rfl) hy_6 pd_12 rfl (c_start hw (k := 1) rfl rfl (by decide) s1) rfl rfl 0 rfl (by decide) (by decide) (by decide) (by decide) ?_
          rintro _ _ ⟨rfl, rfl⟩
          try simp only [List.replicate_succ, List.replicate_zero, List.set_cons_zero, List.set_cons_succ, List.length_nil, List.length_cons, Nat.zero_add, Nat.reduceAdd, List.nil_append, List.cons_append]
          refine go_aload e0_284 rfl rfl ?_
          refine go_iconst e0_286 (x := 1) rfl ?_
          refine go_iaload e0_287 rfl (k := 1) (by decide) rfl ?_
          refine go_icneN e0_288 (tg := 295) (by decide) (by decide) ?_
          refine go_iconst e0_291 (x := 1) rfl ?_
          refine go_goto e0_292 (tg := 296) (by decide) ?_
          refine go_istore_8 e0_296 rfl ?_
          refine go_iconst e0_298 (x := 2) rfl ?_
          refine go_iload e0_299 rfl ?_
          refine go_icgeN e0_301 (tg := 329) (by decide) (by decide) ?_
          refine go_iload e0_304 rfl ?_
          refine go_ifeqN e0_306 (tg := 326) (by decide) (by decide) ?_
          refine go_aload e0_309 rfl rfl ?_
          refine go_iconst e0_311 (x := 2) rfl ?_
          refine go_virtual_1 e0_312 (wd 32 rfl) (wd 33 rfl) (wd 35 rfl) (wd 34 rfl) (wd 36 rfl) (wd 5 rfl) hy_6 pd_12 rfl (c_start hw (k := 2) rfl rfl (by decide) s2) rfl rfl 0 rfl (by decide) (by decide) (by decide) (by decide) ?_
          rintro _ _ ⟨rfl, rfl⟩
          try simp only [List.replicate_succ, List.replicate_zero, List.set_cons_zero, List.set_cons_succ, List.length_nil, List.length_cons, Nat.zero_add, Nat.reduceAdd, List.nil_append, List.cons_append]
          refine go_aload e0_315 rfl rfl ?_
          refine go_iconst e0_317 (x := 2) rfl ?_
          refine go_iaload e0_318 rfl (k := 2) (by decide) rfl ?_
          refine go_icneN e0_319 (tg := 326) (by decide) (by decide) ?_
          refine go_iconst e0_322 (x := 1) rfl ?_
          refine go_goto e0_323 (tg := 327) (by decide) ?_
          refine go_istore_8 e0_327 rfl ?_
          refine go_iconst e0_329 (x := 3) rfl ?_
          refine go_iload e0_330 rfl ?_
          refine go_icgeN e0_332 (tg := 360) (by decide) (by decide) ?_
          refine go_iload e0_335 rfl ?_
          refine go_ifeqN e0_337 (tg := 357) (by decide) (by decide) ?_
          refine go_aload e0_340 rfl rfl ?_
          refine go_iconst e0_342 (x := 3) rfl ?_
          refine go_virtual_1 e0_343 (wd 32 rfl) (wd 33 rfl) (wd 35 rfl) (wd 34 rfl) (wd 36 rfl) (wd 5 rfl) hy_6 pd_12 rfl (c_start hw (k := 3) rfl rfl (by decide) s3) rfl rfl 0 rfl (by decide) (by decide) (by decide) (by decide) ?_
          rintro _ _ ⟨rfl, rfl⟩
          try simp only [List.replicate_succ, List.replicate_zero, List.set_cons_zero, List.set_cons_succ, List.length_nil, List.length_cons, Nat.zero_add, Nat.reduceAdd, List.nil_append, List.cons_append]
          refine go_aload e0_346 rfl rfl ?_
          refine go_iconst e0_348 (x := 3) rfl ?_
          refine go_iaload e0_349 rfl (k := 3) (by decide) rfl ?_
          refine go_icneN e0_350 (tg := 357) (by decide) (by decide) ?_
          refine go_iconst e0_353 (x := 1) rfl ?_
          refine go_goto e0_354 (tg := 358) (by decide) ?_
          refine go_istore_8 e0_358 rfl ?_
          refine go_iconst e0_360 (x := 4) rfl ?_
          refine go_iload e0_361 rfl ?_
          refine go_icgeY e0_363 (tg := 391) (by decide) (by decide) ?_
          refine go_iload e0_391 rfl ?_
          refine go_zreturn e0_393 rfl (by decide) (by decide) (by decide) ?_
          exact rfl
  · refine go_iloadN e0_7 rfl ?_
    refine go_newarray e0_8 (wd 1 rfl) (k := 4) rfl (vs := [.int 0, .int 0, .int 0, .int 0]) rfl (cap := 4) (by decide) (by decide) (by decide) (by decide) ?_
    simp only [List.replicate_succ, List.replicate_zero, List.set_cons_zero, List.set_cons_succ, List.length_nil, List.length_cons, Nat.zero_add, Nat.reduceAdd, List.nil_append, List.cons_append]
    refine go_astore_4 e0_10 rfl rfl ?_
    refine go_iloadN e0_12 rfl ?_
    refine go_ifleN e0_13 (tg := 26) (by decide) (by decide) ?_
    refine go_aload e0_16 rfl rfl ?_
    refine go_iconst e0_18 (x := 0) rfl ?_
    refine go_iloadN e0_19 rfl ?_
    refine go_iloadN e0_20 rfl ?_
    refine go_iconst e0_21 (x := 0) rfl ?_
    refine go_static_3 e0_22 (wd 37 rfl) (wd 38 rfl) (wd 40 rfl) (wd 39 rfl) hy_13 pd_14 rfl (c_pick hw) rfl 2 rfl (by decide) (by decide) (by decide) (by decide) ?_
    rintro _ _ ⟨x0, rfl, hx0, rfl⟩
    try simp only [List.replicate_succ, List.replicate_zero, List.set_cons_zero, List.set_cons_succ, List.length_nil, List.length_cons, Nat.zero_add, Nat.reduceAdd, List.nil_append, List.cons_append]
    refine go_bastore e0_25 rfl (k := 0) (by decide) (Nat.le_of_ble_eq_true rfl) ?_
    simp only [List.replicate_succ, List.replicate_zero, List.set_cons_zero, List.set_cons_succ, List.length_nil, List.length_cons, Nat.zero_add, Nat.reduceAdd, List.nil_append, List.cons_append]
    rw [hx0]
    refine go_iloadN e0_26 rfl ?_
    refine go_iconst e0_27 (x := 1) rfl ?_
    refine go_icleN e0_28 (tg := 41) (by decide) (by decide) ?_
    refine go_aload e0_31 rfl rfl ?_
    refine go_iconst e0_33 (x := 1) rfl ?_
    refine go_iloadN e0_34 rfl ?_
    refine go_iloadN e0_35 rfl ?_
    refine go_iconst e0_36 (x := 1) rfl ?_
    refine go_static_3 e0_37 (wd 37 rfl) (wd 38 rfl) (wd 40 rfl) (wd 39 rfl) hy_13 pd_14 rfl (c_pick hw) rfl 2 rfl (by decide) (by decide) (by decide) (by decide) ?_
    rintro _ _ ⟨x1, rfl, hx1, rfl⟩
    try simp only [List.replicate_succ, List.replicate_zero, List.set_cons_zero, List.set_cons_succ, List.length_nil, List.length_cons, Nat.zero_add, Nat.reduceAdd, List.nil_append, List.cons_append]
    refine go_bastore e0_40 rfl (k := 1) (by decide) (Nat.le_of_ble_eq_true rfl) ?_
    simp only [List.replicate_succ, List.replicate_zero, List.set_cons_zero, List.set_cons_succ, List.length_nil, List.length_cons, Nat.zero_add, Nat.reduceAdd, List.nil_append, List.cons_append]
    rw [hx1]
    refine go_iloadN e0_41 rfl ?_
    refine go_iconst e0_42 (x := 2) rfl ?_
    refine go_icleN e0_43 (tg := 56) (by decide) (by decide) ?_
    refine go_aload e0_46 rfl rfl ?_
    refine go_iconst e0_48 (x := 2) rfl ?_
    refine go_iloadN e0_49 rfl ?_
    refine go_iloadN e0_50 rfl ?_
    refine go_iconst e0_51 (x := 2) rfl ?_
    refine go_static_3 e0_52 (wd 37 rfl) (wd 38 rfl) (wd 40 rfl) (wd 39 rfl) hy_13 pd_14 rfl (c_pick hw) rfl 2 rfl (by decide) (by decide) (by decide) (by decide) ?_
    rintro _ _ ⟨x2, rfl, hx2, rfl⟩
    try simp only [List.replicate_succ, List.replicate_zero, List.set_cons_zero, List.set_cons_succ, List.length_nil, List.length_cons, Nat.zero_add, Nat.reduceAdd, List.nil_append, List.cons_append]
    refine go_bastore e0_55 rfl (k := 2) (by decide) (Nat.le_of_ble_eq_true rfl) ?_
    simp only [List.replicate_succ, List.replicate_zero, List.set_cons_zero, List.set_cons_succ, List.length_nil, List.length_cons, Nat.zero_add, Nat.reduceAdd, List.nil_append, List.cons_append]
    rw [hx2]
    refine go_iloadN e0_56 rfl ?_
    refine go_iconst e0_57 (x := 3) rfl ?_
    refine go_icleN e0_58 (tg := 71) (by decide) (by decide) ?_
    refine go_aload e0_61 rfl rfl ?_
    refine go_iconst e0_63 (x := 3) rfl ?_
    refine go_iloadN e0_64 rfl ?_
    refine go_iloadN e0_65 rfl ?_
    refine go_iconst e0_66 (x := 3) rfl ?_
    refine go_static_3 e0_67 (wd 37 rfl) (wd 38 rfl) (wd 40 rfl) (wd 39 rfl) hy_13 pd_14 rfl (c_pick hw) rfl 2 rfl (by decide) (by decide) (by decide) (by decide) ?_
    rintro _ _ ⟨x3, rfl, hx3, rfl⟩
    try simp only [List.replicate_succ, List.replicate_zero, List.set_cons_zero, List.set_cons_succ, List.length_nil, List.length_cons, Nat.zero_add, Nat.reduceAdd, List.nil_append, List.cons_append]
    refine go_bastore e0_70 rfl (k := 3) (by decide) (Nat.le_of_ble_eq_true rfl) ?_
    simp only [List.replicate_succ, List.replicate_zero, List.set_cons_zero, List.set_cons_succ, List.length_nil, List.length_cons, Nat.zero_add, Nat.reduceAdd, List.nil_append, List.cons_append]
    rw [hx3]
    refine go_bipush e0_71 (x := 6) rfl ?_
    refine go_newarray e0_73 (wd 2 rfl) (k := 6) rfl (vs := [.int 0, .int 0, .int 0, .int 0, .int 0, .int 0]) rfl (cap := 6) (by decide) (by decide) (by decide) (by decide) ?_
    simp only [List.replicate_succ, List.replicate_zero, List.set_cons_zero, List.set_cons_succ, List.length_nil, List.length_cons, Nat.zero_add, Nat.reduceAdd, List.nil_append, List.cons_append]
    refine go_astore_5 e0_75 rfl rfl ?_
    refine go_aload e0_77 rfl rfl ?_
    refine go_iconst e0_79 (x := 0) rfl ?_
    refine go_iconst e0_80 (x := 0) rfl ?_
    refine go_iastore e0_81 rfl (k := 0) (by decide) (Nat.le_of_ble_eq_true rfl) ?_
    simp only [List.replicate_succ, List.replicate_zero, List.set_cons_zero, List.set_cons_succ, List.length_nil, List.length_cons, Nat.zero_add, Nat.reduceAdd, List.nil_append, List.cons_append]
    refine go_iconst e0_82 (x := 1) rfl ?_
    refine go_istore_6 e0_83 rfl ?_
    refine go_iloadN e0_85 rfl ?_
    refine go_ifleN e0_86 (tg := 107) (by decide) (by decide) ?_
    refine go_aload e0_89 rfl rfl ?_
    refine go_iconst e0_91 (x := 0) rfl ?_
    refine go_baload e0_92 rfl (k := 0) (by decide) rfl ?_
    refine go_bipush e0_93 (x := 10) rfl ?_
    refine go_icne e0_95 (tg := 107) (by decide) ?_ ?_
    · intro c95
      refine go_iloadN e0_107 rfl ?_
      refine go_iconst e0_108 (x := 1) rfl ?_
      refine go_icleN e0_109 (tg := 130) (by decide) (by decide) ?_
      refine go_aload e0_112 rfl rfl ?_
      refine go_iconst e0_114 (x := 1) rfl ?_
      refine go_baload e0_115 rfl (k := 1) (by decide) rfl ?_
      refine go_bipush e0_116 (x := 10) rfl ?_
      refine go_icne e0_118 (tg := 130) (by decide) ?_ ?_
      · intro c118
        refine go_iloadN e0_130 rfl ?_
        refine go_iconst e0_131 (x := 2) rfl ?_
        refine go_icleN e0_132 (tg := 153) (by decide) (by decide) ?_
        refine go_aload e0_135 rfl rfl ?_
        refine go_iconst e0_137 (x := 2) rfl ?_
        refine go_baload e0_138 rfl (k := 2) (by decide) rfl ?_
        refine go_bipush e0_139 (x := 10) rfl ?_
        refine go_icne e0_141 (tg := 153) (by decide) ?_ ?_
        · intro c141
          refine go_iloadN e0_153 rfl ?_
          refine go_iconst e0_154 (x := 3) rfl ?_
          refine go_icleN e0_155 (tg := 176) (by decide) (by decide) ?_
          refine go_aload e0_158 rfl rfl ?_
          refine go_iconst e0_160 (x := 3) rfl ?_
          refine go_baload e0_161 rfl (k := 3) (by decide) rfl ?_
          refine go_bipush e0_162 (x := 10) rfl ?_
          refine go_icne e0_164 (tg := 176) (by decide) ?_ ?_
          · intro c164
            refine go_iloadN e0_176 rfl ?_
            refine go_ifleN e0_177 (tg := 200) (by decide) (by decide) ?_
            refine go_aload e0_180 rfl rfl ?_
            refine go_iloadN e0_182 rfl ?_
            refine go_iconst e0_183 (x := 1) rfl ?_
            refine go_isub e0_184 ?_
            refine go_baload e0_185 rfl (k := 3) (by decide) rfl ?_
            refine go_bipush e0_186 (x := 10) rfl ?_
            refine go_iceqN e0_188 (tg := 200) (by decide) c164 ?_
            refine go_aload e0_191 rfl rfl ?_
            refine go_iload e0_193 rfl ?_
            refine go_iloadN e0_195 rfl ?_
            refine go_iastore e0_196 rfl (k := 1) (by decide) (Nat.le_of_ble_eq_true rfl) ?_
            simp only [List.replicate_succ, List.replicate_zero, List.set_cons_zero, List.set_cons_succ, List.length_nil, List.length_cons, Nat.zero_add, Nat.reduceAdd, List.nil_append, List.cons_append]
            refine go_iinc_6 e0_197 (z := 1) rfl ?_
            refine go_aload e0_200 rfl rfl ?_
            refine go_static_1 e0_202 (wd 3 rfl) (wd 4 rfl) (wd 6 rfl) (wd 5 rfl) hy_6 pd_9 rfl (c_of hw (n := 4) (xs := [x0, x1, x2, x3]) rfl rfl (by decide)) rfl 0 rfl (by decide) (by decide) (by decide) (by decide) ?_
            rintro _ _ ⟨rfl, st, c0, rfl, hc, hsl, hst, hsc⟩
            have hb0 : own_b [x0, x1, x2, x3] 0 = 0 := own_bno (rfl : ([x0, x1, x2, x3] : List Int32)[0]? = some x0) c95
            have hb1 : own_b [x0, x1, x2, x3] 1 = 0 := own_bno (rfl : ([x0, x1, x2, x3] : List Int32)[1]? = some x1) c118
            have hb2 : own_b [x0, x1, x2, x3] 2 = 0 := own_bno (rfl : ([x0, x1, x2, x3] : List Int32)[2]? = some x2) c141
            have hb3 : own_b [x0, x1, x2, x3] 3 = 0 := own_bno (rfl : ([x0, x1, x2, x3] : List Int32)[3]? = some x3) c164
            obtain rfl : c0 = 1 := by
              simp [own_c, own_last, hb0, hb1, hb2, hb3] at hc
              omega
            have s0 : st[0]? = some (N2I 0) := hst 0 0 (by decide) (by simp [own_lf, hb0, hb1, hb2, hb3])
            have s1 : st[1]? = some (N2I 4) := hsc
            try simp only [List.replicate_succ, List.replicate_zero, List.set_cons_zero, List.set_cons_succ, List.length_nil, List.length_cons, Nat.zero_add, Nat.reduceAdd, List.nil_append, List.cons_append]
            refine go_astore_7 e0_205 rfl rfl ?_
            refine go_aload e0_207 rfl rfl ?_
            refine go_virtual_0 e0_209 (wd 22 rfl) (wd 23 rfl) (wd 25 rfl) (wd 24 rfl) (wd 26 rfl) (wd 5 rfl) hy_6 pd_10 rfl (c_data hw rfl) rfl rfl 0 rfl (by decide) (by decide) (by decide) (by decide) ?_
            rintro _ _ ⟨rfl, rfl⟩
            try simp only [List.replicate_succ, List.replicate_zero, List.set_cons_zero, List.set_cons_succ, List.length_nil, List.length_cons, Nat.zero_add, Nat.reduceAdd, List.nil_append, List.cons_append]
            refine go_aload e0_212 rfl rfl ?_
            refine go_acmp e0_214 rfl rfl (same := true) rfl (tg := 219) (by decide) ?_
            show Go C 219 _ _ _ _ _
            refine go_aload e0_219 rfl rfl ?_
            refine go_virtual_0 e0_221 (wd 27 rfl) (wd 28 rfl) (wd 30 rfl) (wd 29 rfl) (wd 31 rfl) (wd 5 rfl) hy_6 pd_11 rfl (c_cnt hw rfl rfl) rfl rfl 0 rfl (by decide) (by decide) (by decide) (by decide) ?_
            rintro _ _ ⟨rfl, rfl⟩
            try simp only [List.replicate_succ, List.replicate_zero, List.set_cons_zero, List.set_cons_succ, List.length_nil, List.length_cons, Nat.zero_add, Nat.reduceAdd, List.nil_append, List.cons_append]
            refine go_iload e0_224 rfl ?_
            refine go_iconst e0_226 (x := 1) rfl ?_
            refine go_isub e0_227 ?_
            refine go_iceqY e0_228 (tg := 233) (by decide) (by rw [hsl]; decide) ?_
            refine go_iconst e0_233 (x := 1) rfl ?_
            refine go_istore_8 e0_234 rfl ?_
            refine go_iconst e0_236 (x := 0) rfl ?_
            refine go_iload e0_237 rfl ?_
            refine go_icgeN e0_239 (tg := 267) (by decide) (by decide) ?_
            refine go_iload e0_242 rfl ?_
            refine go_ifeqN e0_244 (tg := 264) (by decide) (by decide) ?_
            refine go_aload e0_247 rfl rfl ?_
            refine go_iconst e0_249 (x := 0) rfl ?_
            refine go_virtual_1 e0_250 (wd 32 rfl) (wd 33 rfl) (wd 35 rfl) (wd 34 rfl) (wd 36 rfl) (wd 5 rfl) hy_6 pd_12 rfl (c_start hw (k := 0) rfl rfl (by decide) s0) rfl rfl 0 rfl (by decide) (by decide) (by decide) (by decide) ?_
            rintro _ _ ⟨rfl, rfl⟩
            try simp only [List.replicate_succ, List.replicate_zero, List.set_cons_zero, List.set_cons_succ, List.length_nil, List.length_cons, Nat.zero_add, Nat.reduceAdd, List.nil_append, List.cons_append]
            refine go_aload e0_253 rfl rfl ?_
            refine go_iconst e0_255 (x := 0) rfl ?_
            refine go_iaload e0_256 rfl (k := 0) (by decide) rfl ?_
            refine go_icneN e0_257 (tg := 264) (by decide) (by decide) ?_
            refine go_iconst e0_260 (x := 1) rfl ?_
            refine go_goto e0_261 (tg := 265) (by decide) ?_
            refine go_istore_8 e0_265 rfl ?_
            refine go_iconst e0_267 (x := 1) rfl ?_
            refine go_iload e0_268 rfl ?_
            refine go_icgeN e0_270 (tg := 298) (by decide) (by decide) ?_
            refine go_iload e0_273 rfl ?_
            refine go_ifeqN e0_275 (tg := 295) (by decide) (by decide) ?_
            refine go_aload e0_278 rfl rfl ?_
            refine go_iconst e0_280 (x := 1) rfl ?_
            refine go_virtual_1 e0_281 (wd 32 rfl) (wd 33 rfl) (wd 35 rfl) (wd 34 rfl) (wd 36 rfl) (wd 5 rfl) hy_6 pd_12 rfl (c_start hw (k := 1) rfl rfl (by decide) s1) rfl rfl 0 rfl (by decide) (by decide) (by decide) (by decide) ?_
            rintro _ _ ⟨rfl, rfl⟩
            try simp only [List.replicate_succ, List.replicate_zero, List.set_cons_zero, List.set_cons_succ, List.length_nil, List.length_cons, Nat.zero_add, Nat.reduceAdd, List.nil_append, List.cons_append]
            refine go_aload e0_284 rfl rfl ?_
            refine go_iconst e0_286 (x := 1) rfl ?_
            refine go_iaload e0_287 rfl (k := 1) (by decide) rfl ?_
            refine go_icneN e0_288 (tg := 295) (by decide) (by decide) ?_
            refine go_iconst e0_291 (x := 1) rfl ?_
            refine go_goto e0_292 (tg := 296) (by decide) ?_
            refine go_istore_8 e0_296 rfl ?_
            refine go_iconst e0_298 (x := 2) rfl ?_
            refine go_iload e0_299 rfl ?_
            refine go_icgeY e0_301 (tg := 329) (by decide) (by decide) ?_
            refine go_iconst e0_329 (x := 3) rfl ?_
            refine go_iload e0_330 rfl ?_
            refine go_icgeY e0_332 (tg := 360) (by decide) (by decide) ?_
            refine go_iconst e0_360 (x := 4) rfl ?_
            refine go_iload e0_361 rfl ?_
            refine go_icgeY e0_363 (tg := 391) (by decide) (by decide) ?_
            refine go_iload e0_391 rfl ?_
            refine go_zreturn e0_393 rfl (by decide) (by decide) (by decide) ?_
            exact rfl
          · intro c164
            refine go_aload e0_167 rfl rfl ?_
            refine go_iload e0_169 rfl ?_
            refine go_iconst e0_171 (x := 4) rfl ?_
            refine go_iastore e0_172 rfl (k := 1) (by decide) (Nat.le_of_ble_eq_true rfl) ?_
            simp only [List.replicate_succ, List.replicate_zero, List.set_cons_zero, List.set_cons_succ, List.length_nil, List.length_cons, Nat.zero_add, Nat.reduceAdd, List.nil_append, List.cons_append]
            refine go_iinc_6 e0_173 (z := 1) rfl ?_
            refine go_iloadN e0_176 rfl ?_
            refine go_ifleN e0_177 (tg := 200) (by decide) (by decide) ?_
            refine go_aload e0_180 rfl rfl ?_
            refine go_iloadN e0_182 rfl ?_
            refine go_iconst e0_183 (x := 1) rfl ?_
            refine go_isub e0_184 ?_
            refine go_baload e0_185 rfl (k := 3) (by decide) rfl ?_
            refine go_bipush e0_186 (x := 10) rfl ?_
            refine go_iceqY e0_188 (tg := 200) (by decide) c164 ?_
            refine go_aload e0_200 rfl rfl ?_
            refine go_static_1 e0_202 (wd 3 rfl) (wd 4 rfl) (wd 6 rfl) (wd 5 rfl) hy_6 pd_9 rfl (c_of hw (n := 4) (xs := [x0, x1, x2, x3]) rfl rfl (by decide)) rfl 0 rfl (by decide) (by decide) (by decide) (by decide) ?_
            rintro _ _ ⟨rfl, st, c0, rfl, hc, hsl, hst, hsc⟩
            have hb0 : own_b [x0, x1, x2, x3] 0 = 0 := own_bno (rfl : ([x0, x1, x2, x3] : List Int32)[0]? = some x0) c95
            have hb1 : own_b [x0, x1, x2, x3] 1 = 0 := own_bno (rfl : ([x0, x1, x2, x3] : List Int32)[1]? = some x1) c118
            have hb2 : own_b [x0, x1, x2, x3] 2 = 0 := own_bno (rfl : ([x0, x1, x2, x3] : List Int32)[2]? = some x2) c141
            have hb3 : own_b [x0, x1, x2, x3] 3 = 1 := own_byes (rfl : ([x0, x1, x2, x3] : List Int32)[3]? = some x3) c164
            obtain rfl : c0 = 1 := by
              simp [own_c, own_last, hb0, hb1, hb2, hb3] at hc
              omega
            have s0 : st[0]? = some (N2I 0) := hst 0 0 (by decide) (by simp [own_lf, hb0, hb1, hb2, hb3])
            have s1 : st[1]? = some (N2I 4) := hsc
            try simp only [List.replicate_succ, List.replicate_zero, List.set_cons_zero, List.set_cons_succ, List.length_nil, List.length_cons, Nat.zero_add, Nat.reduceAdd, List.nil_append, List.cons_append]
            refine go_astore_7 e0_205 rfl rfl ?_
            refine go_aload e0_207 rfl rfl ?_
            refine go_virtual_0 e0_209 (wd 22 rfl) (wd 23 rfl) (wd 25 rfl) (wd 24 rfl) (wd 26 rfl) (wd 5 rfl) hy_6 pd_10 rfl (c_data hw rfl) rfl rfl 0 rfl (by decide) (by decide) (by decide) (by decide) ?_
            rintro _ _ ⟨rfl, rfl⟩
            try simp only [List.replicate_succ, List.replicate_zero, List.set_cons_zero, List.set_cons_succ, List.length_nil, List.length_cons, Nat.zero_add, Nat.reduceAdd, List.nil_append, List.cons_append]
            refine go_aload e0_212 rfl rfl ?_
            refine go_acmp e0_214 rfl rfl (same := true) rfl (tg := 219) (by decide) ?_
            show Go C 219 _ _ _ _ _
            refine go_aload e0_219 rfl rfl ?_
            refine go_virtual_0 e0_221 (wd 27 rfl) (wd 28 rfl) (wd 30 rfl) (wd 29 rfl) (wd 31 rfl) (wd 5 rfl) hy_6 pd_11 rfl (c_cnt hw rfl rfl) rfl rfl 0 rfl (by decide) (by decide) (by decide) (by decide) ?_
            rintro _ _ ⟨rfl, rfl⟩
            try simp only [List.replicate_succ, List.replicate_zero, List.set_cons_zero, List.set_cons_succ, List.length_nil, List.length_cons, Nat.zero_add, Nat.reduceAdd, List.nil_append, List.cons_append]
            refine go_iload e0_224 rfl ?_
            refine go_iconst e0_226 (x := 1) rfl ?_
            refine go_isub e0_227 ?_
            refine go_iceqY e0_228 (tg := 233) (by decide) (by rw [hsl]; decide) ?_
            refine go_iconst e0_233 (x := 1) rfl ?_
            refine go_istore_8 e0_234 rfl ?_
            refine go_iconst e0_236 (x := 0) rfl ?_
            refine go_iload e0_237 rfl ?_
            refine go_icgeN e0_239 (tg := 267) (by decide) (by decide) ?_
            refine go_iload e0_242 rfl ?_
            refine go_ifeqN e0_244 (tg := 264) (by decide) (by decide) ?_
            refine go_aload e0_247 rfl rfl ?_
            refine go_iconst e0_249 (x := 0) rfl ?_
            refine go_virtual_1 e0_250 (wd 32 rfl) (wd 33 rfl) (wd 35 rfl) (wd 34 rfl) (wd 36 rfl) (wd 5 rfl) hy_6 pd_12 rfl (c_start hw (k := 0) rfl rfl (by decide) s0) rfl rfl 0 rfl (by decide) (by decide) (by decide) (by decide) ?_
            rintro _ _ ⟨rfl, rfl⟩
            try simp only [List.replicate_succ, List.replicate_zero, List.set_cons_zero, List.set_cons_succ, List.length_nil, List.length_cons, Nat.zero_add, Nat.reduceAdd, List.nil_append, List.cons_append]
            refine go_aload e0_253 rfl rfl ?_
            refine go_iconst e0_255 (x := 0) rfl ?_
            refine go_iaload e0_256 rfl (k := 0) (by decide) rfl ?_
            refine go_icneN e0_257 (tg := 264) (by decide) (by decide) ?_
            refine go_iconst e0_260 (x := 1) rfl ?_
            refine go_goto e0_261 (tg := 265) (by decide) ?_
            refine go_istore_8 e0_265 rfl ?_
            refine go_iconst e0_267 (x := 1) rfl ?_
            refine go_iload e0_268 rfl ?_
            refine go_icgeN e0_270 (tg := 298) (by decide) (by decide) ?_
            refine go_iload e0_273 rfl ?_
            refine go_ifeqN e0_275 (tg := 295) (by decide) (by decide) ?_
            refine go_aload e0_278 rfl rfl ?_
            refine go_iconst e0_280 (x := 1) rfl ?_
            refine go_virtual_1 e0_281 (wd 32 rfl) (wd 33 rfl) (wd 35 rfl) (wd 34 rfl) (wd 36 rfl) (wd 5 rfl) hy_6 pd_12 rfl (c_start hw (k := 1) rfl rfl (by decide) s1) rfl rfl 0 rfl (by decide) (by decide) (by decide) (by decide) ?_
            rintro _ _ ⟨rfl, rfl⟩
            try simp only [List.replicate_succ, List.replicate_zero, List.set_cons_zero, List.set_cons_succ, List.length_nil, List.length_cons, Nat.zero_add, Nat.reduceAdd, List.nil_append, List.cons_append]
            refine go_aload e0_284 rfl rfl ?_
            refine go_iconst e0_286 (x := 1) rfl ?_
            refine go_iaload e0_287 rfl (k := 1) (by decide) rfl ?_
            refine go_icneN e0_288 (tg := 295) (by decide) (by decide) ?_
            refine go_iconst e0_291 (x := 1) rfl ?_
            refine go_goto e0_292 (tg := 296) (by decide) ?_
            refine go_istore_8 e0_296 rfl ?_
            refine go_iconst e0_298 (x := 2) rfl ?_
            refine go_iload e0_299 rfl ?_
            refine go_icgeY e0_301 (tg := 329) (by decide) (by decide) ?_
            refine go_iconst e0_329 (x := 3) rfl ?_
            refine go_iload e0_330 rfl ?_
            refine go_icgeY e0_332 (tg := 360) (by decide) (by decide) ?_
            refine go_iconst e0_360 (x := 4) rfl ?_
            refine go_iload e0_361 rfl ?_
            refine go_icgeY e0_363 (tg := 391) (by decide) (by decide) ?_
            refine go_iload e0_391 rfl ?_
            refine go_zreturn e0_393 rfl (by decide) (by decide) (by decide) ?_
            exact rfl
        · intro c141
          refine go_aload e0_144 rfl rfl ?_
          refine go_iload e0_146 rfl ?_
          refine go_iconst e0_148 (x := 3) rfl ?_
          refine go_iastore e0_149 rfl (k := 1) (by decide) (Nat.le_of_ble_eq_true rfl) ?_
          simp only [List.replicate_succ, List.replicate_zero, List.set_cons_zero, List.set_cons_succ, List.length_nil, List.length_cons, Nat.zero_add, Nat.reduceAdd, List.nil_append, List.cons_append]
          refine go_iinc_6 e0_150 (z := 1) rfl ?_
          refine go_iloadN e0_153 rfl ?_
          refine go_iconst e0_154 (x := 3) rfl ?_
          refine go_icleN e0_155 (tg := 176) (by decide) (by decide) ?_
          refine go_aload e0_158 rfl rfl ?_
          refine go_iconst e0_160 (x := 3) rfl ?_
          refine go_baload e0_161 rfl (k := 3) (by decide) rfl ?_
          refine go_bipush e0_162 (x := 10) rfl ?_
          refine go_icne e0_164 (tg := 176) (by decide) ?_ ?_
          · intro c164
            refine go_iloadN e0_176 rfl ?_
            refine go_ifleN e0_177 (tg := 200) (by decide) (by decide) ?_
            refine go_aload e0_180 rfl rfl ?_
            refine go_iloadN e0_182 rfl ?_
            refine go_iconst e0_183 (x := 1) rfl ?_
            refine go_isub e0_184 ?_
            refine go_baload e0_185 rfl (k := 3) (by decide) rfl ?_
            refine go_bipush e0_186 (x := 10) rfl ?_
            refine go_iceqN e0_188 (tg := 200) (by decide) c164 ?_
            refine go_aload e0_191 rfl rfl ?_
            refine go_iload e0_193 rfl ?_
            refine go_iloadN e0_195 rfl ?_
            refine go_iastore e0_196 rfl (k := 2) (by decide) (Nat.le_of_ble_eq_true rfl) ?_
            simp only [List.replicate_succ, List.replicate_zero, List.set_cons_zero, List.set_cons_succ, List.length_nil, List.length_cons, Nat.zero_add, Nat.reduceAdd, List.nil_append, List.cons_append]
            refine go_iinc_6 e0_197 (z := 1) rfl ?_
            refine go_aload e0_200 rfl rfl ?_
            refine go_static_1 e0_202 (wd 3 rfl) (wd 4 rfl) (wd 6 rfl) (wd 5 rfl) hy_6 pd_9 rfl (c_of hw (n := 4) (xs := [x0, x1, x2, x3]) rfl rfl (by decide)) rfl 0 rfl (by decide) (by decide) (by decide) (by decide) ?_
            rintro _ _ ⟨rfl, st, c0, rfl, hc, hsl, hst, hsc⟩
            have hb0 : own_b [x0, x1, x2, x3] 0 = 0 := own_bno (rfl : ([x0, x1, x2, x3] : List Int32)[0]? = some x0) c95
            have hb1 : own_b [x0, x1, x2, x3] 1 = 0 := own_bno (rfl : ([x0, x1, x2, x3] : List Int32)[1]? = some x1) c118
            have hb2 : own_b [x0, x1, x2, x3] 2 = 1 := own_byes (rfl : ([x0, x1, x2, x3] : List Int32)[2]? = some x2) c141
            have hb3 : own_b [x0, x1, x2, x3] 3 = 0 := own_bno (rfl : ([x0, x1, x2, x3] : List Int32)[3]? = some x3) c164
            obtain rfl : c0 = 2 := by
              simp [own_c, own_last, hb0, hb1, hb2, hb3] at hc
              omega
            have s0 : st[0]? = some (N2I 0) := hst 0 0 (by decide) (by simp [own_lf, hb0, hb1, hb2, hb3])
            have s1 : st[1]? = some (N2I 3) := hst 1 3 (by decide) (by simp [own_lf, hb0, hb1, hb2, hb3])
            have s2 : st[2]? = some (N2I 4) := hsc
            try simp only [List.replicate_succ, List.replicate_zero, List.set_cons_zero, List.set_cons_succ, List.length_nil, List.length_cons, Nat.zero_add, Nat.reduceAdd, List.nil_append, List.cons_append]
            refine go_astore_7 e0_205 rfl rfl ?_
            refine go_aload e0_207 rfl rfl ?_
            refine go_virtual_0 e0_209 (wd 22 rfl) (wd 23 rfl) (wd 25 rfl) (wd 24 rfl) (wd 26 rfl) (wd 5 rfl) hy_6 pd_10 rfl (c_data hw rfl) rfl rfl 0 rfl (by decide) (by decide) (by decide) (by decide) ?_
            rintro _ _ ⟨rfl, rfl⟩
            try simp only [List.replicate_succ, List.replicate_zero, List.set_cons_zero, List.set_cons_succ, List.length_nil, List.length_cons, Nat.zero_add, Nat.reduceAdd, List.nil_append, List.cons_append]
            refine go_aload e0_212 rfl rfl ?_
            refine go_acmp e0_214 rfl rfl (same := true) rfl (tg := 219) (by decide) ?_
            show Go C 219 _ _ _ _ _
            refine go_aload e0_219 rfl rfl ?_
            refine go_virtual_0 e0_221 (wd 27 rfl) (wd 28 rfl) (wd 30 rfl) (wd 29 rfl) (wd 31 rfl) (wd 5 rfl) hy_6 pd_11 rfl (c_cnt hw rfl rfl) rfl rfl 0 rfl (by decide) (by decide) (by decide) (by decide) ?_
            rintro _ _ ⟨rfl, rfl⟩
            try simp only [List.replicate_succ, List.replicate_zero, List.set_cons_zero, List.set_cons_succ, List.length_nil, List.length_cons, Nat.zero_add, Nat.reduceAdd, List.nil_append, List.cons_append]
            refine go_iload e0_224 rfl ?_
            refine go_iconst e0_226 (x := 1) rfl ?_
            refine go_isub e0_227 ?_
            refine go_iceqY e0_228 (tg := 233) (by decide) (by rw [hsl]; decide) ?_
            refine go_iconst e0_233 (x := 1) rfl ?_
            refine go_istore_8 e0_234 rfl ?_
            refine go_iconst e0_236 (x := 0) rfl ?_
            refine go_iload e0_237 rfl ?_
            refine go_icgeN e0_239 (tg := 267) (by decide) (by decide) ?_
            refine go_iload e0_242 rfl ?_
            refine go_ifeqN e0_244 (tg := 264) (by decide) (by decide) ?_
            refine go_aload e0_247 rfl rfl ?_
            refine go_iconst e0_249 (x := 0) rfl ?_
            refine go_virtual_1 e0_250 (wd 32 rfl) (wd 33 rfl) (wd 35 rfl) (wd 34 rfl) (wd 36 rfl) (wd 5 rfl) hy_6 pd_12 rfl (c_start hw (k := 0) rfl rfl (by decide) s0) rfl rfl 0 rfl (by decide) (by decide) (by decide) (by decide) ?_
            rintro _ _ ⟨rfl, rfl⟩
            try simp only [List.replicate_succ, List.replicate_zero, List.set_cons_zero, List.set_cons_succ, List.length_nil, List.length_cons, Nat.zero_add, Nat.reduceAdd, List.nil_append, List.cons_append]
            refine go_aload e0_253 rfl rfl ?_
            refine go_iconst e0_255 (x := 0) rfl ?_
            refine go_iaload e0_256 rfl (k := 0) (by decide) rfl ?_
            refine go_icneN e0_257 (tg := 264) (by decide) (by decide) ?_
            refine go_iconst e0_260 (x := 1) rfl ?_
            refine go_goto e0_261 (tg := 265) (by decide) ?_
            refine go_istore_8 e0_265 rfl ?_
            refine go_iconst e0_267 (x := 1) rfl ?_
            refine go_iload e0_268 rfl ?_
            refine go_icgeN e0_270 (tg := 298) (by decide) (by decide) ?_
            refine go_iload e0_273 rfl ?_
            refine go_ifeqN e0_275 (tg := 295) (by decide) (by decide) ?_
            refine go_aload e0_278 rfl rfl ?_
            refine go_iconst e0_280 (x := 1) rfl ?_
            refine go_virtual_1 e0_281 (wd 32 rfl) (wd 33 rfl) (wd 35 rfl) (wd 34 rfl) (wd 36 rfl) (wd 5 rfl) hy_6 pd_12 rfl (c_start hw (k := 1) rfl rfl (by decide) s1) rfl rfl 0 rfl (by decide) (by decide) (by decide) (by decide) ?_
            rintro _ _ ⟨rfl, rfl⟩
            try simp only [List.replicate_succ, List.replicate_zero, List.set_cons_zero, List.set_cons_succ, List.length_nil, List.length_cons, Nat.zero_add, Nat.reduceAdd, List.nil_append, List.cons_append]
            refine go_aload e0_284 rfl rfl ?_
            refine go_iconst e0_286 (x := 1) rfl ?_
            refine go_iaload e0_287 rfl (k := 1) (by decide) rfl ?_
            refine go_icneN e0_288 (tg := 295) (by decide) (by decide) ?_
            refine go_iconst e0_291 (x := 1) rfl ?_
            refine go_goto e0_292 (tg := 296) (by decide) ?_
            refine go_istore_8 e0_296 rfl ?_
            refine go_iconst e0_298 (x := 2) rfl ?_
            refine go_iload e0_299 rfl ?_
            refine go_icgeN e0_301 (tg := 329) (by decide) (by decide) ?_
            refine go_iload e0_304 rfl ?_
            refine go_ifeqN e0_306 (tg := 326) (by decide) (by decide) ?_
            refine go_aload e0_309 rfl rfl ?_
            refine go_iconst e0_311 (x := 2) rfl ?_
            refine go_virtual_1 e0_312 (wd 32 rfl) (wd 33 rfl) (wd 35 rfl) (wd 34 rfl) (wd 36 rfl) (wd 5 rfl) hy_6 pd_12 rfl (c_start hw (k := 2) rfl rfl (by decide) s2) rfl rfl 0 rfl (by decide) (by decide) (by decide) (by decide) ?_
            rintro _ _ ⟨rfl, rfl⟩
            try simp only [List.replicate_succ, List.replicate_zero, List.set_cons_zero, List.set_cons_succ, List.length_nil, List.length_cons, Nat.zero_add, Nat.reduceAdd, List.nil_append, List.cons_append]
            refine go_aload e0_315 rfl rfl ?_
            refine go_iconst e0_317 (x := 2) rfl ?_
            refine go_iaload e0_318 rfl (k := 2) (by decide) rfl ?_
            refine go_icneN e0_319 (tg := 326) (by decide) (by decide) ?_
            refine go_iconst e0_322 (x := 1) rfl ?_
            refine go_goto e0_323 (tg := 327) (by decide) ?_
            refine go_istore_8 e0_327 rfl ?_
            refine go_iconst e0_329 (x := 3) rfl ?_
            refine go_iload e0_330 rfl ?_
            refine go_icgeY e0_332 (tg := 360) (by decide) (by decide) ?_
            refine go_iconst e0_360 (x := 4) rfl ?_
            refine go_iload e0_361 rfl ?_
            refine go_icgeY e0_363 (tg := 391) (by decide) (by decide) ?_
            refine go_iload e0_391 rfl ?_
            refine go_zreturn e0_393 rfl (by decide) (by decide) (by decide) ?_
            exact rfl
          · intro c164
            refine go_aload e0_167 rfl rfl ?_
            refine go_iload e0_169 rfl ?_
            refine go_iconst e0_171 (x := 4) rfl ?_
            refine go_iastore e0_172 rfl (k := 2) (by decide) (Nat.le_of_ble_eq_true rfl) ?_
            simp only [List.replicate_succ, List.replicate_zero, List.set_cons_zero, List.set_cons_succ, List.length_nil, List.length_cons, Nat.zero_add, Nat.reduceAdd, List.nil_append, List.cons_append]
            refine go_iinc_6 e0_173 (z := 1) rfl ?_
            refine go_iloadN e0_176 rfl ?_
            refine go_ifleN e0_177 (tg := 200) (by decide) (by decide) ?_
            refine go_aload e0_180 rfl rfl ?_
            refine go_iloadN e0_182 rfl ?_
            refine go_iconst e0_183 (x := 1) rfl ?_
            refine go_isub e0_184 ?_
            refine go_baload e0_185 rfl (k := 3) (by decide) rfl ?_
            refine go_bipush e0_186 (x := 10) rfl ?_
            refine go_iceqY e0_188 (tg := 200) (by decide) c164 ?_
            refine go_aload e0_200 rfl rfl ?_
            refine go_static_1 e0_202 (wd 3 rfl) (wd 4 rfl) (wd 6 rfl) (wd 5 rfl) hy_6 pd_9 rfl (c_of hw (n := 4) (xs := [x0, x1, x2, x3]) rfl rfl (by decide)) rfl 0 rfl (by decide) (by decide) (by decide) (by decide) ?_
            rintro _ _ ⟨rfl, st, c0, rfl, hc, hsl, hst, hsc⟩
            have hb0 : own_b [x0, x1, x2, x3] 0 = 0 := own_bno (rfl : ([x0, x1, x2, x3] : List Int32)[0]? = some x0) c95
            have hb1 : own_b [x0, x1, x2, x3] 1 = 0 := own_bno (rfl : ([x0, x1, x2, x3] : List Int32)[1]? = some x1) c118
            have hb2 : own_b [x0, x1, x2, x3] 2 = 1 := own_byes (rfl : ([x0, x1, x2, x3] : List Int32)[2]? = some x2) c141
            have hb3 : own_b [x0, x1, x2, x3] 3 = 1 := own_byes (rfl : ([x0, x1, x2, x3] : List Int32)[3]? = some x3) c164
            obtain rfl : c0 = 2 := by
              simp [own_c, own_last, hb0, hb1, hb2, hb3] at hc
              omega
            have s0 : st[0]? = some (N2I 0) := hst 0 0 (by decide) (by simp [own_lf, hb0, hb1, hb2, hb3])
            have s1 : st[1]? = some (N2I 3) := hst 1 3 (by decide) (by simp [own_lf, hb0, hb1, hb2, hb3])
            have s2 : st[2]? = some (N2I 4) := hsc
            try simp only [List.replicate_succ, List.replicate_zero, List.set_cons_zero, List.set_cons_succ, List.length_nil, List.length_cons, Nat.zero_add, Nat.reduceAdd, List.nil_append, List.cons_append]
            refine go_astore_7 e0_205 rfl rfl ?_
            refine go_aload e0_207 rfl rfl ?_
            refine go_virtual_0 e0_209 (wd 22 rfl) (wd 23 rfl) (wd 25 rfl) (wd 24 rfl) (wd 26 rfl) (wd 5 rfl) hy_6 pd_10 rfl (c_data hw rfl) rfl rfl 0 rfl (by decide) (by decide) (by decide) (by decide) ?_
            rintro _ _ ⟨rfl, rfl⟩
            try simp only [List.replicate_succ, List.replicate_zero, List.set_cons_zero, List.set_cons_succ, List.length_nil, List.length_cons, Nat.zero_add, Nat.reduceAdd, List.nil_append, List.cons_append]
            refine go_aload e0_212 rfl rfl ?_
            refine go_acmp e0_214 rfl rfl (same := true) rfl (tg := 219) (by decide) ?_
            show Go C 219 _ _ _ _ _
            refine go_aload e0_219 rfl rfl ?_
            refine go_virtual_0 e0_221 (wd 27 rfl) (wd 28 rfl) (wd 30 rfl) (wd 29 rfl) (wd 31 rfl) (wd 5 rfl) hy_6 pd_11 rfl (c_cnt hw rfl rfl) rfl rfl 0 rfl (by decide) (by decide) (by decide) (by decide) ?_
            rintro _ _ ⟨rfl, rfl⟩
            try simp only [List.replicate_succ, List.replicate_zero, List.set_cons_zero, List.set_cons_succ, List.length_nil, List.length_cons, Nat.zero_add, Nat.reduceAdd, List.nil_append, List.cons_append]
            refine go_iload e0_224 rfl ?_
            refine go_iconst e0_226 (x := 1) rfl ?_
            refine go_isub e0_227 ?_
            refine go_iceqY e0_228 (tg := 233) (by decide) (by rw [hsl]; decide) ?_
            refine go_iconst e0_233 (x := 1) rfl ?_
            refine go_istore_8 e0_234 rfl ?_
            refine go_iconst e0_236 (x := 0) rfl ?_
            refine go_iload e0_237 rfl ?_
            refine go_icgeN e0_239 (tg := 267) (by decide) (by decide) ?_
            refine go_iload e0_242 rfl ?_
            refine go_ifeqN e0_244 (tg := 264) (by decide) (by decide) ?_
            refine go_aload e0_247 rfl rfl ?_
            refine go_iconst e0_249 (x := 0) rfl ?_
            refine go_virtual_1 e0_250 (wd 32 rfl) (wd 33 rfl) (wd 35 rfl) (wd 34 rfl) (wd 36 rfl) (wd 5 rfl) hy_6 pd_12 rfl (c_start hw (k := 0) rfl rfl (by decide) s0) rfl rfl 0 rfl (by decide) (by decide) (by decide) (by decide) ?_
            rintro _ _ ⟨rfl, rfl⟩
            try simp only [List.replicate_succ, List.replicate_zero, List.set_cons_zero, List.set_cons_succ, List.length_nil, List.length_cons, Nat.zero_add, Nat.reduceAdd, List.nil_append, List.cons_append]
            refine go_aload e0_253 rfl rfl ?_
            refine go_iconst e0_255 (x := 0) rfl ?_
            refine go_iaload e0_256 rfl (k := 0) (by decide) rfl ?_
            refine go_icneN e0_257 (tg := 264) (by decide) (by decide) ?_
            refine go_iconst e0_260 (x := 1) rfl ?_
            refine go_goto e0_261 (tg := 265) (by decide) ?_
            refine go_istore_8 e0_265 rfl ?_
            refine go_iconst e0_267 (x := 1) rfl ?_
            refine go_iload e0_268 rfl ?_
            refine go_icgeN e0_270 (tg := 298) (by decide) (by decide) ?_
            refine go_iload e0_273 rfl ?_
            refine go_ifeqN e0_275 (tg := 295) (by decide) (by decide) ?_
            refine go_aload e0_278 rfl rfl ?_
            refine go_iconst e0_280 (x := 1) rfl ?_
            refine go_virtual_1 e0_281 (wd 32 rfl) (wd 33 rfl) (wd 35 rfl) (wd 34 rfl) (wd 36 rfl) (wd 5 rfl) hy_6 pd_12 rfl (c_start hw (k := 1) rfl rfl (by decide) s1) rfl rfl 0 rfl (by decide) (by decide) (by decide) (by decide) ?_
            rintro _ _ ⟨rfl, rfl⟩
            try simp only [List.replicate_succ, List.replicate_zero, List.set_cons_zero, List.set_cons_succ, List.length_nil, List.length_cons, Nat.zero_add, Nat.reduceAdd, List.nil_append, List.cons_append]
            refine go_aload e0_284 rfl rfl ?_
            refine go_iconst e0_286 (x := 1) rfl ?_
            refine go_iaload e0_287 rfl (k := 1) (by decide) rfl ?_
            refine go_icneN e0_288 (tg := 295) (by decide) (by decide) ?_
            refine go_iconst e0_291 (x := 1) rfl ?_
            refine go_goto e0_292 (tg := 296) (by decide) ?_
            refine go_istore_8 e0_296 rfl ?_
            refine go_iconst e0_298 (x := 2) rfl ?_
            refine go_iload e0_299 rfl ?_
            refine go_icgeN e0_301 (tg := 329) (by decide) (by decide) ?_
            refine go_iload e0_304 rfl ?_
            refine go_ifeqN e0_306 (tg := 326) (by decide) (by decide) ?_
            refine go_aload e0_309 rfl rfl ?_
            refine go_iconst e0_311 (x := 2) rfl ?_
            refine go_virtual_1 e0_312 (wd 32 rfl) (wd 33 rfl) (wd 35 rfl) (wd 34 rfl) (wd 36 rfl) (wd 5 rfl) hy_6 pd_12 rfl (c_start hw (k := 2) rfl rfl (by decide) s2) rfl rfl 0 rfl (by decide) (by decide) (by decide) (by decide) ?_
            rintro _ _ ⟨rfl, rfl⟩
            try simp only [List.replicate_succ, List.replicate_zero, List.set_cons_zero, List.set_cons_succ, List.length_nil, List.length_cons, Nat.zero_add, Nat.reduceAdd, List.nil_append, List.cons_append]
            refine go_aload e0_315 rfl rfl ?_
            refine go_iconst e0_317 (x := 2) rfl ?_
            refine go_iaload e0_318 rfl (k := 2) (by decide) rfl ?_
            refine go_icneN e0_319 (tg := 326) (by decide) (by decide) ?_
            refine go_iconst e0_322 (x := 1) rfl ?_
            refine go_goto e0_323 (tg := 327) (by decide) ?_
            refine go_istore_8 e0_327 rfl ?_
            refine go_iconst e0_329 (x := 3) rfl ?_
            refine go_iload e0_330 rfl ?_
            refine go_icgeY e0_332 (tg := 360) (by decide) (by decide) ?_
            refine go_iconst e0_360 (x := 4) rfl ?_
            refine go_iload e0_361 rfl ?_
            refine go_icgeY e0_363 (tg := 391) (by decide) (by decide) ?_
            refine go_iload e0_391 rfl ?_
            refine go_zreturn e0_393 rfl (by decide) (by decide) (by decide) ?_
            exact rfl
      · intro c118
        refine go_aload e0_121 rfl rfl ?_
        refine go_iload e0_123 rfl ?_
        refine go_iconst e0_125 (x := 2) rfl ?_
        refine go_iastore e0_126 rfl (k := 1) (by decide) (Nat.le_of_ble_eq_true rfl) ?_
        simp only [List.replicate_succ, List.replicate_zero, List.set_cons_zero, List.set_cons_succ, List.length_nil, List.length_cons, Nat.zero_add, Nat.reduceAdd, List.nil_append, List.cons_append]
        refine go_iinc_6 e0_127 (z := 1) rfl ?_
        refine go_iloadN e0_130 rfl ?_
        refine go_iconst e0_131 (x := 2) rfl ?_
        refine go_icleN e0_132 (tg := 153) (by decide) (by decide) ?_
        refine go_aload e0_135 rfl rfl ?_
        refine go_iconst e0_137 (x := 2) rfl ?_
        refine go_baload e0_138 rfl (k := 2) (by decide) rfl ?_
        refine go_bipush e0_139 (x := 10) rfl ?_
        refine go_icne e0_141 (tg := 153) (by decide) ?_ ?_
        · intro c141
          refine go_iloadN e0_153 rfl ?_
          refine go_iconst e0_154 (x := 3) rfl ?_
          refine go_icleN e0_155 (tg := 176) (by decide) (by decide) ?_
          refine go_aload e0_158 rfl rfl ?_
          refine go_iconst e0_160 (x := 3) rfl ?_
          refine go_baload e0_161 rfl (k := 3) (by decide) rfl ?_
          refine go_bipush e0_162 (x := 10) rfl ?_
          refine go_icne e0_164 (tg := 176) (by decide) ?_ ?_
          · intro c164
            refine go_iloadN e0_176 rfl ?_
            refine go_ifleN e0_177 (tg := 200) (by decide) (by decide) ?_
            refine go_aload e0_180 rfl rfl ?_
            refine go_iloadN e0_182 rfl ?_
            refine go_iconst e0_183 (x := 1) rfl ?_
            refine go_isub e0_184 ?_
            refine go_baload e0_185 rfl (k := 3) (by decide) rfl ?_
            refine go_bipush e0_186 (x := 10) rfl ?_
            refine go_iceqN e0_188 (tg := 200) (by decide) c164 ?_
            refine go_aload e0_191 rfl rfl ?_
            refine go_iload e0_193 rfl ?_
            refine go_iloadN e0_195 rfl ?_
            refine go_iastore e0_196 rfl (k := 2) (by decide) (Nat.le_of_ble_eq_true rfl) ?_
            simp only [List.replicate_succ, List.replicate_zero, List.set_cons_zero, List.set_cons_succ, List.length_nil, List.length_cons, Nat.zero_add, Nat.reduceAdd, List.nil_append, List.cons_append]
            refine go_iinc_6 e0_197 (z := 1) rfl ?_
            refine go_aload e0_200 rfl rfl ?_
            refine go_static_1 e0_202 (wd 3 rfl) (wd 4 rfl) (wd 6 rfl) (wd 5 rfl) hy_6 pd_9 rfl (c_of hw (n := 4) (xs := [x0, x1, x2, x3]) rfl rfl (by decide)) rfl 0 rfl (by decide) (by decide) (by decide) (by decide) ?_
            rintro _ _ ⟨rfl, st, c0, rfl, hc, hsl, hst, hsc⟩
            have hb0 : own_b [x0, x1, x2, x3] 0 = 0 := own_bno (rfl : ([x0, x1, x2, x3] : List Int32)[0]? = some x0) c95
            have hb1 : own_b [x0, x1, x2, x3] 1 = 1 := own_byes (rfl : ([x0, x1, x2, x3] : List Int32)[1]? = some x1) c118
            have hb2 : own_b [x0, x1, x2, x3] 2 = 0 := own_bno (rfl : ([x0, x1, x2, x3] : List Int32)[2]? = some x2) c141
            have hb3 : own_b [x0, x1, x2, x3] 3 = 0 := own_bno (rfl : ([x0, x1, x2, x3] : List Int32)[3]? = some x3) c164
            obtain rfl : c0 = 2 := by
              simp [own_c, own_last, hb0, hb1, hb2, hb3] at hc
              omega
            have s0 : st[0]? = some (N2I 0) := hst 0 0 (by decide) (by simp [own_lf, hb0, hb1, hb2, hb3])
            have s1 : st[1]? = some (N2I 2) := hst 1 2 (by decide) (by simp [own_lf, hb0, hb1, hb2, hb3])
            have s2 : st[2]? = some (N2I 4) := hsc
            try simp only [List.replicate_succ, List.replicate_zero, List.set_cons_zero, List.set_cons_succ, List.length_nil, List.length_cons, Nat.zero_add, Nat.reduceAdd, List.nil_append, List.cons_append]
            refine go_astore_7 e0_205 rfl rfl ?_
            refine go_aload e0_207 rfl rfl ?_
            refine go_virtual_0 e0_209 (wd 22 rfl) (wd 23 rfl) (wd 25 rfl) (wd 24 rfl) (wd 26 rfl) (wd 5 rfl) hy_6 pd_10 rfl (c_data hw rfl) rfl rfl 0 rfl (by decide) (by decide) (by decide) (by decide) ?_
            rintro _ _ ⟨rfl, rfl⟩
            try simp only [List.replicate_succ, List.replicate_zero, List.set_cons_zero, List.set_cons_succ, List.length_nil, List.length_cons, Nat.zero_add, Nat.reduceAdd, List.nil_append, List.cons_append]
            refine go_aload e0_212 rfl rfl ?_
            refine go_acmp e0_214 rfl rfl (same := true) rfl (tg := 219) (by decide) ?_
            show Go C 219 _ _ _ _ _
            refine go_aload e0_219 rfl rfl ?_
            refine go_virtual_0 e0_221 (wd 27 rfl) (wd 28 rfl) (wd 30 rfl) (wd 29 rfl) (wd 31 rfl) (wd 5 rfl) hy_6 pd_11 rfl (c_cnt hw rfl rfl) rfl rfl 0 rfl (by decide) (by decide) (by decide) (by decide) ?_
            rintro _ _ ⟨rfl, rfl⟩
            try simp only [List.replicate_succ, List.replicate_zero, List.set_cons_zero, List.set_cons_succ, List.length_nil, List.length_cons, Nat.zero_add, Nat.reduceAdd, List.nil_append, List.cons_append]
            refine go_iload e0_224 rfl ?_
            refine go_iconst e0_226 (x := 1) rfl ?_
            refine go_isub e0_227 ?_
            refine go_iceqY e0_228 (tg := 233) (by decide) (by rw [hsl]; decide) ?_
            refine go_iconst e0_233 (x := 1) rfl ?_
            refine go_istore_8 e0_234 rfl ?_
            refine go_iconst e0_236 (x := 0) rfl ?_
            refine go_iload e0_237 rfl ?_
            refine go_icgeN e0_239 (tg := 267) (by decide) (by decide) ?_
            refine go_iload e0_242 rfl ?_
            refine go_ifeqN e0_244 (tg := 264) (by decide) (by decide) ?_
            refine go_aload e0_247 rfl rfl ?_
            refine go_iconst e0_249 (x := 0) rfl ?_
            refine go_virtual_1 e0_250 (wd 32 rfl) (wd 33 rfl) (wd 35 rfl) (wd 34 rfl) (wd 36 rfl) (wd 5 rfl) hy_6 pd_12 rfl (c_start hw (k := 0) rfl rfl (by decide) s0) rfl rfl 0 rfl (by decide) (by decide) (by decide) (by decide) ?_
            rintro _ _ ⟨rfl, rfl⟩
            try simp only [List.replicate_succ, List.replicate_zero, List.set_cons_zero, List.set_cons_succ, List.length_nil, List.length_cons, Nat.zero_add, Nat.reduceAdd, List.nil_append, List.cons_append]
            refine go_aload e0_253 rfl rfl ?_
            refine go_iconst e0_255 (x := 0) rfl ?_
            refine go_iaload e0_256 rfl (k := 0) (by decide) rfl ?_
            refine go_icneN e0_257 (tg := 264) (by decide) (by decide) ?_
            refine go_iconst e0_260 (x := 1) rfl ?_
            refine go_goto e0_261 (tg := 265) (by decide) ?_
            refine go_istore_8 e0_265 rfl ?_
            refine go_iconst e0_267 (x := 1) rfl ?_
            refine go_iload e0_268 rfl ?_
            refine go_icgeN e0_270 (tg := 298) (by decide) (by decide) ?_
            refine go_iload e0_273 rfl ?_
            refine go_ifeqN e0_275 (tg := 295) (by decide) (by decide) ?_
            refine go_aload e0_278 rfl rfl ?_
            refine go_iconst e0_280 (x := 1) rfl ?_
            refine go_virtual_1 e0_281 (wd 32 rfl) (wd 33 rfl) (wd 35 rfl) (wd 34 rfl) (wd 36 rfl) (wd 5 rfl) hy_6 pd_12 rfl (c_start hw (k := 1) rfl rfl (by decide) s1) rfl rfl 0 rfl (by decide) (by decide) (by decide) (by decide) ?_
            rintro _ _ ⟨rfl, rfl⟩
            try simp only [List.replicate_succ, List.replicate_zero, List.set_cons_zero, List.set_cons_succ, List.length_nil, List.length_cons, Nat.zero_add, Nat.reduceAdd, List.nil_append, List.cons_append]
            refine go_aload e0_284 rfl rfl ?_
            refine go_iconst e0_286 (x := 1) rfl ?_
            refine go_iaload e0_287 rfl (k := 1) (by decide) rfl ?_
            refine go_icneN e0_288 (tg := 295) (by decide) (by decide) ?_
            refine go_iconst e0_291 (x := 1) rfl ?_
            refine go_goto e0_292 (tg := 296) (by decide) ?_
            refine go_istore_8 e0_296 rfl ?_
            refine go_iconst e0_298 (x := 2) rfl ?_
            refine go_iload e0_299 rfl ?_
            refine go_icgeN e0_301 (tg := 329) (by decide) (by decide) ?_
            refine go_iload e0_304 rfl ?_
            refine go_ifeqN e0_306 (tg := 326) (by decide) (by decide) ?_
            refine go_aload e0_309 rfl rfl ?_
            refine go_iconst e0_311 (x := 2) rfl ?_
            refine go_virtual_1 e0_312 (wd 32 rfl) (wd 33 rfl) (wd 35 rfl) (wd 34 rfl) (wd 36 rfl) (wd 5 rfl) hy_6 pd_12 rfl (c_start hw (k := 2) rfl rfl (by decide) s2) rfl rfl 0 rfl (by decide) (by decide) (by decide) (by decide) ?_
            rintro _ _ ⟨rfl, rfl⟩
            try simp only [List.replicate_succ, List.replicate_zero, List.set_cons_zero, List.set_cons_succ, List.length_nil, List.length_cons, Nat.zero_add, Nat.reduceAdd, List.nil_append, List.cons_append]
            refine go_aload e0_315 rfl rfl ?_
            refine go_iconst e0_317 (x := 2) rfl ?_
            refine go_iaload e0_318 rfl (k := 2) (by decide) rfl ?_
            refine go_icneN e0_319 (tg := 326) (by decide) (by decide) ?_
            refine go_iconst e0_322 (x := 1) rfl ?_
            refine go_goto e0_323 (tg := 327) (by decide) ?_
            refine go_istore_8 e0_327 rfl ?_
            refine go_iconst e0_329 (x := 3) rfl ?_
            refine go_iload e0_330 rfl ?_
            refine go_icgeY e0_332 (tg := 360) (by decide) (by decide) ?_
            refine go_iconst e0_360 (x := 4) rfl ?_
            refine go_iload e0_361 rfl ?_
            refine go_icgeY e0_363 (tg := 391) (by decide) (by decide) ?_
            refine go_iload e0_391 rfl ?_
            refine go_zreturn e0_393 rfl (by decide) (by decide) (by decide) ?_
            exact rfl
          · intro c164
            refine go_aload e0_167 rfl rfl ?_
            refine go_iload e0_169 rfl ?_
            refine go_iconst e0_171 (x := 4) rfl ?_
            refine go_iastore e0_172 rfl (k := 2) (by decide) (Nat.le_of_ble_eq_true rfl) ?_
            simp only [List.replicate_succ, List.replicate_zero, List.set_cons_zero, List.set_cons_succ, List.length_nil, List.length_cons, Nat.zero_add, Nat.reduceAdd, List.nil_append, List.cons_append]
            refine go_iinc_6 e0_173 (z := 1) rfl ?_
            refine go_iloadN e0_176 rfl ?_
            refine go_ifleN e0_177 (tg := 200) (by decide) (by decide) ?_
            refine go_aload e0_180 rfl rfl ?_
            refine go_iloadN e0_182 rfl ?_
            refine go_iconst e0_183 (x := 1) rfl ?_
            refine go_isub e0_184 ?_
            refine go_baload e0_185 rfl (k := 3) (by decide) rfl ?_
            refine go_bipush e0_186 (x := 10) rfl ?_
            refine go_iceqY e0_188 (tg := 200) (by decide) c164 ?_
            refine go_aload e0_200 rfl rfl ?_
            refine go_static_1 e0_202 (wd 3 rfl) (wd 4 rfl) (wd 6 rfl) (wd 5 rfl) hy_6 pd_9 rfl (c_of hw (n := 4) (xs := [x0, x1, x2, x3]) rfl rfl (by decide)) rfl 0 rfl (by decide) (by decide) (by decide) (by decide) ?_
            rintro _ _ ⟨rfl, st, c0, rfl, hc, hsl, hst, hsc⟩
            have hb0 : own_b [x0, x1, x2, x3] 0 = 0 := own_bno (rfl : ([x0, x1, x2, x3] : List Int32)[0]? = some x0) c95
            have hb1 : own_b [x0, x1, x2, x3] 1 = 1 := own_byes (rfl : ([x0, x1, x2, x3] : List Int32)[1]? = some x1) c118
            have hb2 : own_b [x0, x1, x2, x3] 2 = 0 := own_bno (rfl : ([x0, x1, x2, x3] : List Int32)[2]? = some x2) c141
            have hb3 : own_b [x0, x1, x2, x3] 3 = 1 := own_byes (rfl : ([x0, x1, x2, x3] : List Int32)[3]? = some x3) c164
            obtain rfl : c0 = 2 := by
              simp [own_c, own_last, hb0, hb1, hb2, hb3] at hc
              omega
            have s0 : st[0]? = some (N2I 0) := hst 0 0 (by decide) (by simp [own_lf, hb0, hb1, hb2, hb3])
            have s1 : st[1]? = some (N2I 2) := hst 1 2 (by decide) (by simp [own_lf, hb0, hb1, hb2, hb3])
            have s2 : st[2]? = some (N2I 4) := hsc
            try simp only [List.replicate_succ, List.replicate_zero, List.set_cons_zero, List.set_cons_succ, List.length_nil, List.length_cons, Nat.zero_add, Nat.reduceAdd, List.nil_append, List.cons_append]
            refine go_astore_7 e0_205 rfl rfl ?_
            refine go_aload e0_207 rfl rfl ?_
            refine go_virtual_0 e0_209 (wd 22 rfl) (wd 23 rfl) (wd 25 rfl) (wd 24 rfl) (wd 26 rfl) (wd 5 rfl) hy_6 pd_10 rfl (c_data hw rfl) rfl rfl 0 rfl (by decide) (by decide) (by decide) (by decide) ?_
            rintro _ _ ⟨rfl, rfl⟩
            try simp only [List.replicate_succ, List.replicate_zero, List.set_cons_zero, List.set_cons_succ, List.length_nil, List.length_cons, Nat.zero_add, Nat.reduceAdd, List.nil_append, List.cons_append]
            refine go_aload e0_212 rfl rfl ?_
            refine go_acmp e0_214 rfl rfl (same := true) rfl (tg := 219) (by decide) ?_
            show Go C 219 _ _ _ _ _
            refine go_aload e0_219 rfl rfl ?_
            refine go_virtual_0 e0_221 (wd 27 rfl) (wd 28 rfl) (wd 30 rfl) (wd 29 rfl) (wd 31 rfl) (wd 5 rfl) hy_6 pd_11 rfl (c_cnt hw rfl rfl) rfl rfl 0 rfl (by decide) (by decide) (by decide) (by decide) ?_
            rintro _ _ ⟨rfl, rfl⟩
            try simp only [List.replicate_succ, List.replicate_zero, List.set_cons_zero, List.set_cons_succ, List.length_nil, List.length_cons, Nat.zero_add, Nat.reduceAdd, List.nil_append, List.cons_append]
            refine go_iload e0_224 rfl ?_
            refine go_iconst e0_226 (x := 1) rfl ?_
            refine go_isub e0_227 ?_
            refine go_iceqY e0_228 (tg := 233) (by decide) (by rw [hsl]; decide) ?_
            refine go_iconst e0_233 (x := 1) rfl ?_
            refine go_istore_8 e0_234 rfl ?_
            refine go_iconst e0_236 (x := 0) rfl ?_
            refine go_iload e0_237 rfl ?_
            refine go_icgeN e0_239 (tg := 267) (by decide) (by decide) ?_
            refine go_iload e0_242 rfl ?_
            refine go_ifeqN e0_244 (tg := 264) (by decide) (by decide) ?_
            refine go_aload e0_247 rfl rfl ?_
            refine go_iconst e0_249 (x := 0) rfl ?_
            refine go_virtual_1 e0_250 (wd 32 rfl) (wd 33 rfl) (wd 35 rfl) (wd 34 rfl) (wd 36 rfl) (wd 5 rfl) hy_6 pd_12 rfl (c_start hw (k := 0) rfl rfl (by decide) s0) rfl rfl 0 rfl (by decide) (by decide) (by decide) (by decide) ?_
            rintro _ _ ⟨rfl, rfl⟩
            try simp only [List.replicate_succ, List.replicate_zero, List.set_cons_zero, List.set_cons_succ, List.length_nil, List.length_cons, Nat.zero_add, Nat.reduceAdd, List.nil_append, List.cons_append]
            refine go_aload e0_253 rfl rfl ?_
            refine go_iconst e0_255 (x := 0) rfl ?_
            refine go_iaload e0_256 rfl (k := 0) (by decide) rfl ?_
            refine go_icneN e0_257 (tg := 264) (by decide) (by decide) ?_
            refine go_iconst e0_260 (x := 1) rfl ?_
            refine go_goto e0_261 (tg := 265) (by decide) ?_
            refine go_istore_8 e0_265 rfl ?_
            refine go_iconst e0_267 (x := 1) rfl ?_
            refine go_iload e0_268 rfl ?_
            refine go_icgeN e0_270 (tg := 298) (by decide) (by decide) ?_
            refine go_iload e0_273 rfl ?_
            refine go_ifeqN e0_275 (tg := 295) (by decide) (by decide) ?_
            refine go_aload e0_278 rfl rfl ?_
            refine go_iconst e0_280 (x := 1) rfl ?_
            refine go_virtual_1 e0_281 (wd 32 rfl) (wd 33 rfl) (wd 35 rfl) (wd 34 rfl) (wd 36 rfl) (wd 5 rfl) hy_6 pd_12 rfl (c_start hw (k := 1) rfl rfl (by decide) s1) rfl rfl 0 rfl (by decide) (by decide) (by decide) (by decide) ?_
            rintro _ _ ⟨rfl, rfl⟩
            try simp only [List.replicate_succ, List.replicate_zero, List.set_cons_zero, List.set_cons_succ, List.length_nil, List.length_cons, Nat.zero_add, Nat.reduceAdd, List.nil_append, List.cons_append]
            refine go_aload e0_284 rfl rfl ?_
            refine go_iconst e0_286 (x := 1) rfl ?_
            refine go_iaload e0_287 rfl (k := 1) (by decide) rfl ?_
            refine go_icneN e0_288 (tg := 295) (by decide) (by decide) ?_
            refine go_iconst e0_291 (x := 1) rfl ?_
            refine go_goto e0_292 (tg := 296) (by decide) ?_
            refine go_istore_8 e0_296 rfl ?_
            refine go_iconst e0_298 (x := 2) rfl ?_
            refine go_iload e0_299 rfl ?_
            refine go_icgeN e0_301 (tg := 329) (by decide) (by decide) ?_
            refine go_iload e0_304 rfl ?_
            refine go_ifeqN e0_306 (tg := 326) (by decide) (by decide) ?_
            refine go_aload e0_309 rfl rfl ?_
            refine go_iconst e0_311 (x := 2) rfl ?_
            refine go_virtual_1 e0_312 (wd 32 rfl) (wd 33 rfl) (wd 35 rfl) (wd 34 rfl) (wd 36 rfl) (wd 5 rfl) hy_6 pd_12 rfl (c_start hw (k := 2) rfl rfl (by decide) s2) rfl rfl 0 rfl (by decide) (by decide) (by decide) (by decide) ?_
            rintro _ _ ⟨rfl, rfl⟩
            try simp only [List.replicate_succ, List.replicate_zero, List.set_cons_zero, List.set_cons_succ, List.length_nil, List.length_cons, Nat.zero_add, Nat.reduceAdd, List.nil_append, List.cons_append]
            refine go_aload e0_315 rfl rfl ?_
            refine go_iconst e0_317 (x := 2) rfl ?_
            refine go_iaload e0_318 rfl (k := 2) (by decide) rfl ?_
            refine go_icneN e0_319 (tg := 326) (by decide) (by decide) ?_
            refine go_iconst e0_322 (x := 1) rfl ?_
            refine go_goto e0_323 (tg := 327) (by decide) ?_
            refine go_istore_8 e0_327 rfl ?_
            refine go_iconst e0_329 (x := 3) rfl ?_
            refine go_iload e0_330 rfl ?_
            refine go_icgeY e0_332 (tg := 360) (by decide) (by decide) ?_
            refine go_iconst e0_360 (x := 4) rfl ?_
            refine go_iload e0_361 rfl ?_
            refine go_icgeY e0_363 (tg := 391) (by decide) (by decide) ?_
            refine go_iload e0_391 rfl ?_
            refine go_zreturn e0_393 rfl (by decide) (by decide) (by decide) ?_
            exact rfl
        · intro c141
          refine go_aload e0_144 rfl rfl ?_
          refine go_iload e0_146 rfl ?_
          refine go_iconst e0_148 (x := 3) rfl ?_
          refine go_iastore e0_149 rfl (k := 2) (by decide) (Nat.le_of_ble_eq_true rfl) ?_
          simp only [List.replicate_succ, List.replicate_zero, List.set_cons_zero, List.set_cons_succ, List.length_nil, List.length_cons, Nat.zero_add, Nat.reduceAdd, List.nil_append, List.cons_append]
          refine go_iinc_6 e0_150 (z := 1) rfl ?_
          refine go_iloadN e0_153 rfl ?_
          refine go_iconst e0_154 (x := 3) rfl ?_
          refine go_icleN e0_155 (tg := 176) (by decide) (by decide) ?_
          refine go_aload e0_158 rfl rfl ?_
          refine go_iconst e0_160 (x := 3) rfl ?_
          refine go_baload e0_161 rfl (k := 3) (by decide) rfl ?_
          refine go_bipush e0_162 (x := 10) rfl ?_
          refine go_icne e0_164 (tg := 176) (by decide) ?_ ?_
          · intro c164
            refine go_iloadN e0_176 rfl ?_
            refine go_ifleN e0_177 (tg := 200) (by decide) (by decide) ?_
            refine go_aload e0_180 rfl rfl ?_
            refine go_iloadN e0_182 rfl ?_
            refine go_iconst e0_183 (x := 1) rfl ?_
            refine go_isub e0_184 ?_
            refine go_baload e0_185 rfl (k := 3) (by decide) rfl ?_
            refine go_bipush e0_186 (x := 10) rfl ?_
            refine go_iceqN e0_188 (tg := 200) (by decide) c164 ?_
            refine go_aload e0_191 rfl rfl ?_
            refine go_iload e0_193 rfl ?_
            refine go_iloadN e0_195 rfl ?_
            refine go_iastore e0_196 rfl (k := 3) (by decide) (Nat.le_of_ble_eq_true rfl) ?_
            simp only [List.replicate_succ, List.replicate_zero, List.set_cons_zero, List.set_cons_succ, List.length_nil, List.length_cons, Nat.zero_add, Nat.reduceAdd, List.nil_append, List.cons_append]
            refine go_iinc_6 e0_197 (z := 1) rfl ?_
            refine go_aload e0_200 rfl rfl ?_
            refine go_static_1 e0_202 (wd 3 rfl) (wd 4 rfl) (wd 6 rfl) (wd 5 rfl) hy_6 pd_9 rfl (c_of hw (n := 4) (xs := [x0, x1, x2, x3]) rfl rfl (by decide)) rfl 0 rfl (by decide) (by decide) (by decide) (by decide) ?_
            rintro _ _ ⟨rfl, st, c0, rfl, hc, hsl, hst, hsc⟩
            have hb0 : own_b [x0, x1, x2, x3] 0 = 0 := own_bno (rfl : ([x0, x1, x2, x3] : List Int32)[0]? = some x0) c95
            have hb1 : own_b [x0, x1, x2, x3] 1 = 1 := own_byes (rfl : ([x0, x1, x2, x3] : List Int32)[1]? = some x1) c118
            have hb2 : own_b [x0, x1, x2, x3] 2 = 1 := own_byes (rfl : ([x0, x1, x2, x3] : List Int32)[2]? = some x2) c141
            have hb3 : own_b [x0, x1, x2, x3] 3 = 0 := own_bno (rfl : ([x0, x1, x2, x3] : List Int32)[3]? = some x3) c164
            obtain rfl : c0 = 3 := by
              simp [own_c, own_last, hb0, hb1, hb2, hb3] at hc
              omega
            have s0 : st[0]? = some (N2I 0) := hst 0 0 (by decide) (by simp [own_lf, hb0, hb1, hb2, hb3])
            have s1 : st[1]? = some (N2I 2) := hst 1 2 (by decide) (by simp [own_lf, hb0, hb1, hb2, hb3])
            have s2 : st[2]? = some (N2I 3) := hst 2 3 (by decide) (by simp [own_lf, hb0, hb1, hb2, hb3])
            have s3 : st[3]? = some (N2I 4) := hsc
            try simp only [List.replicate_succ, List.replicate_zero, List.set_cons_zero, List.set_cons_succ, List.length_nil, List.length_cons, Nat.zero_add, Nat.reduceAdd, List.nil_append, List.cons_append]
            refine go_astore_7 e0_205 rfl rfl ?_
            refine go_aload e0_207 rfl rfl ?_
            refine go_virtual_0 e0_209 (wd 22 rfl) (wd 23 rfl) (wd 25 rfl) (wd 24 rfl) (wd 26 rfl) (wd 5 rfl) hy_6 pd_10 rfl (c_data hw rfl) rfl rfl 0 rfl (by decide) (by decide) (by decide) (by decide) ?_
            rintro _ _ ⟨rfl, rfl⟩
            try simp only [List.replicate_succ, List.replicate_zero, List.set_cons_zero, List.set_cons_succ, List.length_nil, List.length_cons, Nat.zero_add, Nat.reduceAdd, List.nil_append, List.cons_append]
            refine go_aload e0_212 rfl rfl ?_
            refine go_acmp e0_214 rfl rfl (same := true) rfl (tg := 219) (by decide) ?_
            show Go C 219 _ _ _ _ _
            refine go_aload e0_219 rfl rfl ?_
            refine go_virtual_0 e0_221 (wd 27 rfl) (wd 28 rfl) (wd 30 rfl) (wd 29 rfl) (wd 31 rfl) (wd 5 rfl) hy_6 pd_11 rfl (c_cnt hw rfl rfl) rfl rfl 0 rfl (by decide) (by decide) (by decide) (by decide) ?_
            rintro _ _ ⟨rfl, rfl⟩
            try simp only [List.replicate_succ, List.replicate_zero, List.set_cons_zero, List.set_cons_succ, List.length_nil, List.length_cons, Nat.zero_add, Nat.reduceAdd, List.nil_append, List.cons_append]
            refine go_iload e0_224 rfl ?_
            refine go_iconst e0_226 (x := 1) rfl ?_
            refine go_isub e0_227 ?_
            refine go_iceqY e0_228 (tg := 233) (by decide) (by rw [hsl]; decide) ?_
            refine go_iconst e0_233 (x := 1) rfl ?_
            refine go_istore_8 e0_234 rfl ?_
            refine go_iconst e0_236 (x := 0) rfl ?_
            refine go_iload e0_237 rfl ?_
            refine go_icgeN e0_239 (tg := 267) (by decide) (by decide) ?_
            refine go_iload e0_242 rfl ?_
            refine go_ifeqN e0_244 (tg := 264) (by decide) (by decide) ?_
            refine go_aload e0_247 rfl rfl ?_
            refine go_iconst e0_249 (x := 0) rfl ?_
            refine go_virtual_1 e0_250 (wd 32 rfl) (wd 33 rfl) (wd 35 rfl) (wd 34 rfl) (wd 36 rfl) (wd 5 rfl) hy_6 pd_12 rfl (c_start hw (k := 0) rfl rfl (by decide) s0) rfl rfl 0 rfl (by decide) (by decide) (by decide) (by decide) ?_
            rintro _ _ ⟨rfl, rfl⟩
            try simp only [List.replicate_succ, List.replicate_zero, List.set_cons_zero, List.set_cons_succ, List.length_nil, List.length_cons, Nat.zero_add, Nat.reduceAdd, List.nil_append, List.cons_append]
            refine go_aload e0_253 rfl rfl ?_
            refine go_iconst e0_255 (x := 0) rfl ?_
            refine go_iaload e0_256 rfl (k := 0) (by decide) rfl ?_
            refine go_icneN e0_257 (tg := 264) (by decide) (by decide) ?_
            refine go_iconst e0_260 (x := 1) rfl ?_
            refine go_goto e0_261 (tg := 265) (by decide) ?_
            refine go_istore_8 e0_265 rfl ?_
            refine go_iconst e0_267 (x := 1) rfl ?_
            refine go_iload e0_268 rfl ?_
            refine go_icgeN e0_270 (tg := 298) (by decide) (by decide) ?_
            refine go_iload e0_273 rfl ?_
            refine go_ifeqN e0_275 (tg := 295) (by decide) (by decide) ?_
            refine go_aload e0_278 rfl rfl ?_
            refine go_iconst e0_280 (x := 1) rfl ?_
            refine go_virtual_1 e0_281 (wd 32 rfl) (wd 33 rfl) (wd 35 rfl) (wd 34 rfl) (wd 36 rfl) (wd 5 rfl) hy_6 pd_12 rfl (c_start hw (k := 1) rfl rfl (by decide) s1) rfl rfl 0 rfl (by decide) (by decide) (by decide) (by decide) ?_
            rintro _ _ ⟨rfl, rfl⟩
            try simp only [List.replicate_succ, List.replicate_zero, List.set_cons_zero, List.set_cons_succ, List.length_nil, List.length_cons, Nat.zero_add, Nat.reduceAdd, List.nil_append, List.cons_append]
            refine go_aload e0_284 rfl rfl ?_
            refine go_iconst e0_286 (x := 1) rfl ?_
            refine go_iaload e0_287 rfl (k := 1) (by decide) rfl ?_
            refine go_icneN e0_288 (tg := 295) (by decide) (by decide) ?_
            refine go_iconst e0_291 (x := 1) rfl ?_
            refine go_goto e0_292 (tg := 296) (by decide) ?_
            refine go_istore_8 e0_296 rfl ?_
            refine go_iconst e0_298 (x := 2) rfl ?_
            refine go_iload e0_299 rfl ?_
            refine go_icgeN e0_301 (tg := 329) (by decide) (by decide) ?_
            refine go_iload e0_304 rfl ?_
            refine go_ifeqN e0_306 (tg := 326) (by decide) (by decide) ?_
            refine go_aload e0_309 rfl rfl ?_
            refine go_iconst e0_311 (x := 2) rfl ?_
            refine go_virtual_1 e0_312 (wd 32 rfl) (wd 33 rfl) (wd 35 rfl) (wd 34 rfl) (wd 36 rfl) (wd 5 rfl) hy_6 pd_12 rfl (c_start hw (k := 2) rfl rfl (by decide) s2) rfl rfl 0 rfl (by decide) (by decide) (by decide) (by decide) ?_
            rintro _ _ ⟨rfl, rfl⟩
            try simp only [List.replicate_succ, List.replicate_zero, List.set_cons_zero, List.set_cons_succ, List.length_nil, List.length_cons, Nat.zero_add, Nat.reduceAdd, List.nil_append, List.cons_append]
            refine go_aload e0_315 rfl rfl ?_
            refine go_iconst e0_317 (x := 2) rfl ?_
            refine go_iaload e0_318 rfl (k := 2) (by decide) rfl ?_
            refine go_icneN e0_319 (tg := 326) (by decide) (by decide) ?_
            refine go_iconst e0_322 (x := 1) rfl ?_
            refine go_goto e0_323 (tg := 327) (by decide) ?_
            refine go_istore_8 e0_327 rfl ?_
            refine go_iconst e0_329 (x := 3) rfl ?_
            refine go_iload e0_330 rfl ?_
            refine go_icgeN e0_332 (tg := 360) (by decide) (by decide) ?_
            refine go_iload e0_335 rfl ?_
            refine go_ifeqN e0_337 (tg := 357) (by decide) (by decide) ?_
            refine go_aload e0_340 rfl rfl ?_
            refine go_iconst e0_342 (x := 3) rfl ?_
            refine go_virtual_1 e0_343 (wd 32 rfl) (wd 33 rfl) (wd 35 rfl) (wd 34 rfl) (wd 36 rfl) (wd 5 rfl) hy_6 pd_12 rfl (c_start hw (k := 3) rfl rfl (by decide) s3) rfl rfl 0 rfl (by decide) (by decide) (by decide) (by decide) ?_
            rintro _ _ ⟨rfl, rfl⟩
            try simp only [List.replicate_succ, List.replicate_zero, List.set_cons_zero, List.set_cons_succ, List.length_nil, List.length_cons, Nat.zero_add, Nat.reduceAdd, List.nil_append, List.cons_append]
            refine go_aload e0_346 rfl rfl ?_
            refine go_iconst e0_348 (x := 3) rfl ?_
            refine go_iaload e0_349 rfl (k := 3) (by decide) rfl ?_
            refine go_icneN e0_350 (tg := 357) (by decide) (by decide) ?_
            refine go_iconst e0_353 (x := 1) rfl ?_
            refine go_goto e0_354 (tg := 358) (by decide) ?_
            refine go_istore_8 e0_358 rfl ?_
            refine go_iconst e0_360 (x := 4) rfl ?_
            refine go_iload e0_361 rfl ?_
            refine go_icgeY e0_363 (tg := 391) (by decide) (by decide) ?_
            refine go_iload e0_391 rfl ?_
            refine go_zreturn e0_393 rfl (by decide) (by decide) (by decide) ?_
            exact rfl
          · intro c164
            refine go_aload e0_167 rfl rfl ?_
            refine go_iload e0_169 rfl ?_
            refine go_iconst e0_171 (x := 4) rfl ?_
            refine go_iastore e0_172 rfl (k := 3) (by decide) (Nat.le_of_ble_eq_true rfl) ?_
            simp only [List.replicate_succ, List.replicate_zero, List.set_cons_zero, List.set_cons_succ, List.length_nil, List.length_cons, Nat.zero_add, Nat.reduceAdd, List.nil_append, List.cons_append]
            refine go_iinc_6 e0_173 (z := 1) rfl ?_
            refine go_iloadN e0_176 rfl ?_
            refine go_ifleN e0_177 (tg := 200) (by decide) (by decide) ?_
            refine go_aload e0_180 rfl rfl ?_
            refine go_iloadN e0_182 rfl ?_
            refine go_iconst e0_183 (x := 1) rfl ?_
            refine go_isub e0_184 ?_
            refine go_baload e0_185 rfl (k := 3) (by decide) rfl ?_
            refine go_bipush e0_186 (x := 10) rfl ?_
            refine go_iceqY e0_188 (tg := 200) (by decide) c164 ?_
            refine go_aload e0_200 rfl rfl ?_
            refine go_static_1 e0_202 (wd 3 rfl) (wd 4 rfl) (wd 6 rfl) (wd 5 rfl) hy_6 pd_9 rfl (c_of hw (n := 4) (xs := [x0, x1, x2, x3]) rfl rfl (by decide)) rfl 0 rfl (by decide) (by decide) (by decide) (by decide) ?_
            rintro _ _ ⟨rfl, st, c0, rfl, hc, hsl, hst, hsc⟩
            have hb0 : own_b [x0, x1, x2, x3] 0 = 0 := own_bno (rfl : ([x0, x1, x2, x3] : List Int32)[0]? = some x0) c95
            have hb1 : own_b [x0, x1, x2, x3] 1 = 1 := own_byes (rfl : ([x0, x1, x2, x3] : List Int32)[1]? = some x1) c118
            have hb2 : own_b [x0, x1, x2, x3] 2 = 1 := own_byes (rfl : ([x0, x1, x2, x3] : List Int32)[2]? = some x2) c141
            have hb3 : own_b [x0, x1, x2, x3] 3 = 1 := own_byes (rfl : ([x0, x1, x2, x3] : List Int32)[3]? = some x3) c164
            obtain rfl : c0 = 3 := by
              simp [own_c, own_last, hb0, hb1, hb2, hb3] at hc
              omega
            have s0 : st[0]? = some (N2I 0) := hst 0 0 (by decide) (by simp [own_lf, hb0, hb1, hb2, hb3])
            have s1 : st[1]? = some (N2I 2) := hst 1 2 (by decide) (by simp [own_lf, hb0, hb1, hb2, hb3])
            have s2 : st[2]? = some (N2I 3) := hst 2 3 (by decide) (by simp [own_lf, hb0, hb1, hb2, hb3])
            have s3 : st[3]? = some (N2I 4) := hsc
            try simp only [List.replicate_succ, List.replicate_zero, List.set_cons_zero, List.set_cons_succ, List.length_nil, List.length_cons, Nat.zero_add, Nat.reduceAdd, List.nil_append, List.cons_append]
            refine go_astore_7 e0_205 rfl rfl ?_
            refine go_aload e0_207 rfl rfl ?_
            refine go_virtual_0 e0_209 (wd 22 rfl) (wd 23 rfl) (wd 25 rfl) (wd 24 rfl) (wd 26 rfl) (wd 5 rfl) hy_6 pd_10 rfl (c_data hw rfl) rfl rfl 0 rfl (by decide) (by decide) (by decide) (by decide) ?_
            rintro _ _ ⟨rfl, rfl⟩
            try simp only [List.replicate_succ, List.replicate_zero, List.set_cons_zero, List.set_cons_succ, List.length_nil, List.length_cons, Nat.zero_add, Nat.reduceAdd, List.nil_append, List.cons_append]
            refine go_aload e0_212 rfl rfl ?_
            refine go_acmp e0_214 rfl rfl (same := true) rfl (tg := 219) (by decide) ?_
            show Go C 219 _ _ _ _ _
            refine go_aload e0_219 rfl rfl ?_
            refine go_virtual_0 e0_221 (wd 27 rfl) (wd 28 rfl) (wd 30 rfl) (wd 29 rfl) (wd 31 rfl) (wd 5 rfl) hy_6 pd_11 rfl (c_cnt hw rfl rfl) rfl rfl 0 rfl (by decide) (by decide) (by decide) (by decide) ?_
            rintro _ _ ⟨rfl, rfl⟩
            try simp only [List.replicate_succ, List.replicate_zero, List.set_cons_zero, List.set_cons_succ, List.length_nil, List.length_cons, Nat.zero_add, Nat.reduceAdd, List.nil_append, List.cons_append]
            refine go_iload e0_224 rfl ?_
            refine go_iconst e0_226 (x := 1) rfl ?_
            refine go_isub e0_227 ?_
            refine go_iceqY e0_228 (tg := 233) (by decide) (by rw [hsl]; decide) ?_
            refine go_iconst e0_233 (x := 1) rfl ?_
            refine go_istore_8 e0_234 rfl ?_
            refine go_iconst e0_236 (x := 0) rfl ?_
            refine go_iload e0_237 rfl ?_
            refine go_icgeN e0_239 (tg := 267) (by decide) (by decide) ?_
            refine go_iload e0_242 rfl ?_
            refine go_ifeqN e0_244 (tg := 264) (by decide) (by decide) ?_
            refine go_aload e0_247 rfl rfl ?_
            refine go_iconst e0_249 (x := 0) rfl ?_
            refine go_virtual_1 e0_250 (wd 32 rfl) (wd 33 rfl) (wd 35 rfl) (wd 34 rfl) (wd 36 rfl) (wd 5 rfl) hy_6 pd_12 rfl (c_start hw (k := 0) rfl rfl (by decide) s0) rfl rfl 0 rfl (by decide) (by decide) (by decide) (by decide) ?_
            rintro _ _ ⟨rfl, rfl⟩
            try simp only [List.replicate_succ, List.replicate_zero, List.set_cons_zero, List.set_cons_succ, List.length_nil, List.length_cons, Nat.zero_add, Nat.reduceAdd, List.nil_append, List.cons_append]
            refine go_aload e0_253 rfl rfl ?_
            refine go_iconst e0_255 (x := 0) rfl ?_
            refine go_iaload e0_256 rfl (k := 0) (by decide) rfl ?_
            refine go_icneN e0_257 (tg := 264) (by decide) (by decide) ?_
            refine go_iconst e0_260 (x := 1) rfl ?_
            refine go_goto e0_261 (tg := 265) (by decide) ?_
            refine go_istore_8 e0_265 rfl ?_
            refine go_iconst e0_267 (x := 1) rfl ?_
            refine go_iload e0_268 rfl ?_
            refine go_icgeN e0_270 (tg := 298) (by decide) (by decide) ?_
            refine go_iload e0_273 rfl ?_
            refine go_ifeqN e0_275 (tg := 295) (by decide) (by decide) ?_
            refine go_aload e0_278 rfl rfl ?_
            refine go_iconst e0_280 (x := 1) rfl ?_
            refine go_virtual_1 e0_281 (wd 32 rfl) (wd 33 rfl) (wd 35 rfl) (wd 34 rfl) (wd 36 rfl) (wd 5 rfl) hy_6 pd_12 rfl (c_start hw (k := 1) rfl rfl (by decide) s1) rfl rfl 0 rfl (by decide) (by decide) (by decide) (by decide) ?_
            rintro _ _ ⟨rfl, rfl⟩
            try simp only [List.replicate_succ, List.replicate_zero, List.set_cons_zero, List.set_cons_succ, List.length_nil, List.length_cons, Nat.zero_add, Nat.reduceAdd, List.nil_append, List.cons_append]
            refine go_aload e0_284 rfl rfl ?_
            refine go_iconst e0_286 (x := 1) rfl ?_
            refine go_iaload e0_287 rfl (k := 1) (by decide) rfl ?_
            refine go_icneN e0_288 (tg := 295) (by decide) (by decide) ?_
            refine go_iconst e0_291 (x := 1) rfl ?_
            refine go_goto e0_292 (tg := 296) (by decide) ?_
            refine go_istore_8 e0_296 rfl ?_
            refine go_iconst e0_298 (x := 2) rfl ?_
            refine go_iload e0_299 rfl ?_
            refine go_icgeN e0_301 (tg := 329) (by decide) (by decide) ?_
            refine go_iload e0_304 rfl ?_
            refine go_ifeqN e0_306 (tg := 326) (by decide) (by decide) ?_
            refine go_aload e0_309 rfl rfl ?_
            refine go_iconst e0_311 (x := 2) rfl ?_
            refine go_virtual_1 e0_312 (wd 32 rfl) (wd 33 rfl) (wd 35 rfl) (wd 34 rfl) (wd 36 rfl) (wd 5 rfl) hy_6 pd_12 rfl (c_start hw (k := 2) rfl rfl (by decide) s2) rfl rfl 0 rfl (by decide) (by decide) (by decide) (by decide) ?_
            rintro _ _ ⟨rfl, rfl⟩
            try simp only [List.replicate_succ, List.replicate_zero, List.set_cons_zero, List.set_cons_succ, List.length_nil, List.length_cons, Nat.zero_add, Nat.reduceAdd, List.nil_append, List.cons_append]
            refine go_aload e0_315 rfl rfl ?_
            refine go_iconst e0_317 (x := 2) rfl ?_
            refine go_iaload e0_318 rfl (k := 2) (by decide) rfl ?_
            refine go_icneN e0_319 (tg := 326) (by decide) (by decide) ?_
            refine go_iconst e0_322 (x := 1) rfl ?_
            refine go_goto e0_323 (tg := 327) (by decide) ?_
            refine go_istore_8 e0_327 rfl ?_
            refine go_iconst e0_329 (x := 3) rfl ?_
            refine go_iload e0_330 rfl ?_
            refine go_icgeN e0_332 (tg := 360) (by decide) (by decide) ?_
            refine go_iload e0_335 rfl ?_
            refine go_ifeqN e0_337 (tg := 357) (by decide) (by decide) ?_
            refine go_aload e0_340 rfl rfl ?_
            refine go_iconst e0_342 (x := 3) rfl ?_
            refine go_virtual_1 e0_343 (wd 32 rfl) (wd 33 rfl) (wd 35 rfl) (wd 34 rfl) (wd 36 rfl) (wd 5 rfl) hy_6 pd_12 rfl (c_start hw (k := 3) rfl rfl (by decide) s3) rfl rfl 0 rfl (by decide) (by decide) (by decide) (by decide) ?_
            rintro _ _ ⟨rfl, rfl⟩
            try simp only [List.replicate_succ, List.replicate_zero, List.set_cons_zero, List.set_cons_succ, List.length_nil, List.length_cons, Nat.zero_add, Nat.reduceAdd, List.nil_append, List.cons_append]
            refine go_aload e0_346 rfl rfl ?_
            refine go_iconst e0_348 (x := 3) rfl ?_
            refine go_iaload e0_349 rfl (k := 3) (by decide) rfl ?_
            refine go_icneN e0_350 (tg := 357) (by decide) (by decide) ?_
            refine go_iconst e0_353 (x := 1) rfl ?_
            refine go_goto e0_354 (tg := 358) (by decide) ?_
            refine go_istore_8 e0_358 rfl ?_
            refine go_iconst e0_360 (x := 4) rfl ?_
            refine go_iload e0_361 rfl ?_
            refine go_icgeY e0_363 (tg := 391) (by decide) (by decide) ?_
            refine go_iload e0_391 rfl ?_
            refine go_zreturn e0_393 rfl (by decide) (by decide) (by decide) ?_
            exact rfl
    · intro c95
      refine go_aload e0_98 rfl rfl ?_
      refine go_iload e0_100 rfl ?_
      refine go_iconst e0_102 (x := 1) rfl ?_
      refine go_iastore e0_103 rfl (k := 1) (by decide) (Nat.le_of_ble_eq_true rfl) ?_
      simp only [List.replicate_succ, List.replicate_zero, List.set_cons_zero, List.set_cons_succ, List.length_nil, List.length_cons, Nat.zero_add, Nat.reduceAdd, List.nil_append, List.cons_append]
      refine go_iinc_6 e0_104 (z := 1) rfl ?_
      refine go_iloadN e0_107 rfl ?_
      refine go_iconst e0_108 (x := 1) rfl ?_
      refine go_icleN e0_109 (tg := 130) (by decide) (by decide) ?_
      refine go_aload e0_112 rfl rfl ?_
      refine go_iconst e0_114 (x := 1) rfl ?_
      refine go_baload e0_115 rfl (k := 1) (by decide) rfl ?_
      refine go_bipush e0_116 (x := 10) rfl ?_
      refine go_icne e0_118 (tg := 130) (by decide) ?_ ?_
      · intro c118
        refine go_iloadN e0_130 rfl ?_
        refine go_iconst e0_131 (x := 2) rfl ?_
        refine go_icleN e0_132 (tg := 153) (by decide) (by decide) ?_
        refine go_aload e0_135 rfl rfl ?_
        refine go_iconst e0_137 (x := 2) rfl ?_
        refine go_baload e0_138 rfl (k := 2) (by decide) rfl ?_
        refine go_bipush e0_139 (x := 10) rfl ?_
        refine go_icne e0_141 (tg := 153) (by decide) ?_ ?_
        · intro c141
          refine go_iloadN e0_153 rfl ?_
          refine go_iconst e0_154 (x := 3) rfl ?_
          refine go_icleN e0_155 (tg := 176) (by decide) (by decide) ?_
          refine go_aload e0_158 rfl rfl ?_
          refine go_iconst e0_160 (x := 3) rfl ?_
          refine go_baload e0_161 rfl (k := 3) (by decide) rfl ?_
          refine go_bipush e0_162 (x := 10) rfl ?_
          refine go_icne e0_164 (tg := 176) (by decide) ?_ ?_
          · intro c164
            refine go_iloadN e0_176 rfl ?_
            refine go_ifleN e0_177 (tg := 200) (by decide) (by decide) ?_
            refine go_aload e0_180 rfl rfl ?_
            refine go_iloadN e0_182 rfl ?_
            refine go_iconst e0_183 (x := 1) rfl ?_
            refine go_isub e0_184 ?_
            refine go_baload e0_185 rfl (k := 3) (by decide) rfl ?_
            refine go_bipush e0_186 (x := 10) rfl ?_
            refine go_iceqN e0_188 (tg := 200) (by decide) c164 ?_
            refine go_aload e0_191 rfl rfl ?_
            refine go_iload e0_193 rfl ?_
            refine go_iloadN e0_195 rfl ?_
            refine go_iastore e0_196 rfl (k := 2) (by decide) (Nat.le_of_ble_eq_true rfl) ?_
            simp only [List.replicate_succ, List.replicate_zero, List.set_cons_zero, List.set_cons_succ, List.length_nil, List.length_cons, Nat.zero_add, Nat.reduceAdd, List.nil_append, List.cons_append]
            refine go_iinc_6 e0_197 (z := 1) rfl ?_
            refine go_aload e0_200 rfl rfl ?_
            refine go_static_1 e0_202 (wd 3 rfl) (wd 4 rfl) (wd 6 rfl) (wd 5 rfl) hy_6 pd_9 rfl (c_of hw (n := 4) (xs := [x0, x1, x2, x3]) rfl rfl (by decide)) rfl 0 rfl (by decide) (by decide) (by decide) (by decide) ?_
            rintro _ _ ⟨rfl, st, c0, rfl, hc, hsl, hst, hsc⟩
            have hb0 : own_b [x0, x1, x2, x3] 0 = 1 := own_byes (rfl : ([x0, x1, x2, x3] : List Int32)[0]? = some x0) c95
            have hb1 : own_b [x0, x1, x2, x3] 1 = 0 := own_bno (rfl : ([x0, x1, x2, x3] : List Int32)[1]? = some x1) c118
            have hb2 : own_b [x0, x1, x2, x3] 2 = 0 := own_bno (rfl : ([x0, x1, x2, x3] : List Int32)[2]? = some x2) c141
            have hb3 : own_b [x0, x1, x2, x3] 3 = 0 := own_bno (rfl : ([x0, x1, x2, x3] : List Int32)[3]? = some x3) c164
            obtain rfl : c0 = 2 := by
              simp [own_c, own_last, hb0, hb1, hb2, hb3] at hc
              omega
            have s0 : st[0]? = some (N2I 0) := hst 0 0 (by decide) (by simp [own_lf, hb0, hb1, hb2, hb3])
            have s1 : st[1]? = some (N2I 1) := hst 1 1 (by decide) (by simp [own_lf, hb0, hb1, hb2, hb3])
            have s2 : st[2]? = some (N2I 4) := hsc
            try simp only [List.replicate_succ, List.replicate_zero, List.set_cons_zero, List.set_cons_succ, List.length_nil, List.length_cons, Nat.zero_add, Nat.reduceAdd, List.nil_append, List.cons_append]
            refine go_astore_7 e0_205 rfl rfl ?_
            refine go_aload e0_207 rfl rfl ?_
            refine go_virtual_0 e0_209 (wd 22 rfl) (wd 23 rfl) (wd 25 rfl) (wd 24 rfl) (wd 26 rfl) (wd 5 rfl) hy_6 pd_10 rfl (c_data hw rfl) rfl rfl 0 rfl (by decide) (by decide) (by decide) (by decide) ?_
            rintro _ _ ⟨rfl, rfl⟩
            try simp only [List.replicate_succ, List.replicate_zero, List.set_cons_zero, List.set_cons_succ, List.length_nil, List.length_cons, Nat.zero_add, Nat.reduceAdd, List.nil_append, List.cons_append]
            refine go_aload e0_212 rfl rfl ?_
            refine go_acmp e0_214 rfl rfl (same := true) rfl (tg := 219) (by decide) ?_
            show Go C 219 _ _ _ _ _
            refine go_aload e0_219 rfl rfl ?_
            refine go_virtual_0 e0_221 (wd 27 rfl) (wd 28 rfl) (wd 30 rfl) (wd 29 rfl) (wd 31 rfl) (wd 5 rfl) hy_6 pd_11 rfl (c_cnt hw rfl rfl) rfl rfl 0 rfl (by decide) (by decide) (by decide) (by decide) ?_
            rintro _ _ ⟨rfl, rfl⟩
            try simp only [List.replicate_succ, List.replicate_zero, List.set_cons_zero, List.set_cons_succ, List.length_nil, List.length_cons, Nat.zero_add, Nat.reduceAdd, List.nil_append, List.cons_append]
            refine go_iload e0_224 rfl ?_
            refine go_iconst e0_226 (x := 1) rfl ?_
            refine go_isub e0_227 ?_
            refine go_iceqY e0_228 (tg := 233) (by decide) (by rw [hsl]; decide) ?_
            refine go_iconst e0_233 (x := 1) rfl ?_
            refine go_istore_8 e0_234 rfl ?_
            refine go_iconst e0_236 (x := 0) rfl ?_
            refine go_iload e0_237 rfl ?_
            refine go_icgeN e0_239 (tg := 267) (by decide) (by decide) ?_
            refine go_iload e0_242 rfl ?_
            refine go_ifeqN e0_244 (tg := 264) (by decide) (by decide) ?_
            refine go_aload e0_247 rfl rfl ?_
            refine go_iconst e0_249 (x := 0) rfl ?_
            refine go_virtual_1 e0_250 (wd 32 rfl) (wd 33 rfl) (wd 35 rfl) (wd 34 rfl) (wd 36 rfl) (wd 5 rfl) hy_6 pd_12 rfl (c_start hw (k := 0) rfl rfl (by decide) s0) rfl rfl 0 rfl (by decide) (by decide) (by decide) (by decide) ?_
            rintro _ _ ⟨rfl, rfl⟩
            try simp only [List.replicate_succ, List.replicate_zero, List.set_cons_zero, List.set_cons_succ, List.length_nil, List.length_cons, Nat.zero_add, Nat.reduceAdd, List.nil_append, List.cons_append]
            refine go_aload e0_253 rfl rfl ?_
            refine go_iconst e0_255 (x := 0) rfl ?_
            refine go_iaload e0_256 rfl (k := 0) (by decide) rfl ?_
            refine go_icneN e0_257 (tg := 264) (by decide) (by decide) ?_
            refine go_iconst e0_260 (x := 1) rfl ?_
            refine go_goto e0_261 (tg := 265) (by decide) ?_
            refine go_istore_8 e0_265 rfl ?_
            refine go_iconst e0_267 (x := 1) rfl ?_
            refine go_iload e0_268 rfl ?_
            refine go_icgeN e0_270 (tg := 298) (by decide) (by decide) ?_
            refine go_iload e0_273 rfl ?_
            refine go_ifeqN e0_275 (tg := 295) (by decide) (by decide) ?_
            refine go_aload e0_278 rfl rfl ?_
            refine go_iconst e0_280 (x := 1) rfl ?_
            refine go_virtual_1 e0_281 (wd 32 rfl) (wd 33 rfl) (wd 35 rfl) (wd 34 rfl) (wd 36 rfl) (wd 5 rfl) hy_6 pd_12 rfl (c_start hw (k := 1) rfl rfl (by decide) s1) rfl rfl 0 rfl (by decide) (by decide) (by decide) (by decide) ?_
            rintro _ _ ⟨rfl, rfl⟩
            try simp only [List.replicate_succ, List.replicate_zero, List.set_cons_zero, List.set_cons_succ, List.length_nil, List.length_cons, Nat.zero_add, Nat.reduceAdd, List.nil_append, List.cons_append]
            refine go_aload e0_284 rfl rfl ?_
            refine go_iconst e0_286 (x := 1) rfl ?_
            refine go_iaload e0_287 rfl (k := 1) (by decide) rfl ?_
            refine go_icneN e0_288 (tg := 295) (by decide) (by decide) ?_
            refine go_iconst e0_291 (x := 1) rfl ?_
            refine go_goto e0_292 (tg := 296) (by decide) ?_
            refine go_istore_8 e0_296 rfl ?_
            refine go_iconst e0_298 (x := 2) rfl ?_
            refine go_iload e0_299 rfl ?_
            refine go_icgeN e0_301 (tg := 329) (by decide) (by decide) ?_
            refine go_iload e0_304 rfl ?_
            refine go_ifeqN e0_306 (tg := 326) (by decide) (by decide) ?_
            refine go_aload e0_309 rfl rfl ?_
            refine go_iconst e0_311 (x := 2) rfl ?_
            refine go_virtual_1 e0_312 (wd 32 rfl) (wd 33 rfl) (wd 35 rfl) (wd 34 rfl) (wd 36 rfl) (wd 5 rfl) hy_6 pd_12 rfl (c_start hw (k := 2) rfl rfl (by decide) s2) rfl rfl 0 rfl (by decide) (by decide) (by decide) (by decide) ?_
            rintro _ _ ⟨rfl, rfl⟩
            try simp only [List.replicate_succ, List.replicate_zero, List.set_cons_zero, List.set_cons_succ, List.length_nil, List.length_cons, Nat.zero_add, Nat.reduceAdd, List.nil_append, List.cons_append]
            refine go_aload e0_315 rfl rfl ?_
            refine go_iconst e0_317 (x := 2) rfl ?_
            refine go_iaload e0_318 rfl (k := 2) (by decide) rfl ?_
            refine go_icneN e0_319 (tg := 326) (by decide) (by decide) ?_
            refine go_iconst e0_322 (x := 1) rfl ?_
            refine go_goto e0_323 (tg := 327) (by decide) ?_
            refine go_istore_8 e0_327 rfl ?_
            refine go_iconst e0_329 (x := 3) rfl ?_
            refine go_iload e0_330 rfl ?_
            refine go_icgeY e0_332 (tg := 360) (by decide) (by decide) ?_
            refine go_iconst e0_360 (x := 4) rfl ?_
            refine go_iload e0_361 rfl ?_
            refine go_icgeY e0_363 (tg := 391) (by decide) (by decide) ?_
            refine go_iload e0_391 rfl ?_
            refine go_zreturn e0_393 rfl (by decide) (by decide) (by decide) ?_
            exact rfl
          · intro c164
            refine go_aload e0_167 rfl rfl ?_
            refine go_iload e0_169 rfl ?_
            refine go_iconst e0_171 (x := 4) rfl ?_
            refine go_iastore e0_172 rfl (k := 2) (by decide) (Nat.le_of_ble_eq_true rfl) ?_
            simp only [List.replicate_succ, List.replicate_zero, List.set_cons_zero, List.set_cons_succ, List.length_nil, List.length_cons, Nat.zero_add, Nat.reduceAdd, List.nil_append, List.cons_append]
            refine go_iinc_6 e0_173 (z := 1) rfl ?_
            refine go_iloadN e0_176 rfl ?_
            refine go_ifleN e0_177 (tg := 200) (by decide) (by decide) ?_
            refine go_aload e0_180 rfl rfl ?_
            refine go_iloadN e0_182 rfl ?_
            refine go_iconst e0_183 (x := 1) rfl ?_
            refine go_isub e0_184 ?_
            refine go_baload e0_185 rfl (k := 3) (by decide) rfl ?_
            refine go_bipush e0_186 (x := 10) rfl ?_
            refine go_iceqY e0_188 (tg := 200) (by decide) c164 ?_
            refine go_aload e0_200 rfl rfl ?_
            refine go_static_1 e0_202 (wd 3 rfl) (wd 4 rfl) (wd 6 rfl) (wd 5 rfl) hy_6 pd_9 rfl (c_of hw (n := 4) (xs := [x0, x1, x2, x3]) rfl rfl (by decide)) rfl 0 rfl (by decide) (by decide) (by decide) (by decide) ?_
            rintro _ _ ⟨rfl, st, c0, rfl, hc, hsl, hst, hsc⟩
            have hb0 : own_b [x0, x1, x2, x3] 0 = 1 := own_byes (rfl : ([x0, x1, x2, x3] : List Int32)[0]? = some x0) c95
            have hb1 : own_b [x0, x1, x2, x3] 1 = 0 := own_bno (rfl : ([x0, x1, x2, x3] : List Int32)[1]? = some x1) c118
            have hb2 : own_b [x0, x1, x2, x3] 2 = 0 := own_bno (rfl : ([x0, x1, x2, x3] : List Int32)[2]? = some x2) c141
            have hb3 : own_b [x0, x1, x2, x3] 3 = 1 := own_byes (rfl : ([x0, x1, x2, x3] : List Int32)[3]? = some x3) c164
            obtain rfl : c0 = 2 := by
              simp [own_c, own_last, hb0, hb1, hb2, hb3] at hc
              omega
            have s0 : st[0]? = some (N2I 0) := hst 0 0 (by decide) (by simp [own_lf, hb0, hb1, hb2, hb3])
            have s1 : st[1]? = some (N2I 1) := hst 1 1 (by decide) (by simp [own_lf, hb0, hb1, hb2, hb3])
            have s2 : st[2]? = some (N2I 4) := hsc
            try simp only [List.replicate_succ, List.replicate_zero, List.set_cons_zero, List.set_cons_succ, List.length_nil, List.length_cons, Nat.zero_add, Nat.reduceAdd, List.nil_append, List.cons_append]
            refine go_astore_7 e0_205 rfl rfl ?_
            refine go_aload e0_207 rfl rfl ?_
            refine go_virtual_0 e0_209 (wd 22 rfl) (wd 23 rfl) (wd 25 rfl) (wd 24 rfl) (wd 26 rfl) (wd 5 rfl) hy_6 pd_10 rfl (c_data hw rfl) rfl rfl 0 rfl (by decide) (by decide) (by decide) (by decide) ?_
            rintro _ _ ⟨rfl, rfl⟩
            try simp only [List.replicate_succ, List.replicate_zero, List.set_cons_zero, List.set_cons_succ, List.length_nil, List.length_cons, Nat.zero_add, Nat.reduceAdd, List.nil_append, List.cons_append]
            refine go_aload e0_212 rfl rfl ?_
            refine go_acmp e0_214 rfl rfl (same := true) rfl (tg := 219) (by decide) ?_
            show Go C 219 _ _ _ _ _
            refine go_aload e0_219 rfl rfl ?_
            refine go_virtual_0 e0_221 (wd 27 rfl) (wd 28 rfl) (wd 30 rfl) (wd 29 rfl) (wd 31 rfl) (wd 5 rfl) hy_6 pd_11 rfl (c_cnt hw rfl rfl) rfl rfl 0 rfl (by decide) (by decide) (by decide) (by decide) ?_
            rintro _ _ ⟨rfl, rfl⟩
            try simp only [List.replicate_succ, List.replicate_zero, List.set_cons_zero, List.set_cons_succ, List.length_nil, List.length_cons, Nat.zero_add, Nat.reduceAdd, List.nil_append, List.cons_append]
            refine go_iload e0_224 rfl ?_
            refine go_iconst e0_226 (x := 1) rfl ?_
            refine go_isub e0_227 ?_
            refine go_iceqY e0_228 (tg := 233) (by decide) (by rw [hsl]; decide) ?_
            refine go_iconst e0_233 (x := 1) rfl ?_
            refine go_istore_8 e0_234 rfl ?_
            refine go_iconst e0_236 (x := 0) rfl ?_
            refine go_iload e0_237 rfl ?_
            refine go_icgeN e0_239 (tg := 267) (by decide) (by decide) ?_
            refine go_iload e0_242 rfl ?_
            refine go_ifeqN e0_244 (tg := 264) (by decide) (by decide) ?_
            refine go_aload e0_247 rfl rfl ?_
            refine go_iconst e0_249 (x := 0) rfl ?_
            refine go_virtual_1 e0_250 (wd 32 rfl) (wd 33 rfl) (wd 35 rfl) (wd 34 rfl) (wd 36 rfl) (wd 5 rfl) hy_6 pd_12 rfl (c_start hw (k := 0) rfl rfl (by decide) s0) rfl rfl 0 rfl (by decide) (by decide) (by decide) (by decide) ?_
            rintro _ _ ⟨rfl, rfl⟩
            try simp only [List.replicate_succ, List.replicate_zero, List.set_cons_zero, List.set_cons_succ, List.length_nil, List.length_cons, Nat.zero_add, Nat.reduceAdd, List.nil_append, List.cons_append]
            refine go_aload e0_253 rfl rfl ?_
            refine go_iconst e0_255 (x := 0) rfl ?_
            refine go_iaload e0_256 rfl (k := 0) (by decide) rfl ?_
            refine go_icneN e0_257 (tg := 264) (by decide) (by decide) ?_
            refine go_iconst e0_260 (x := 1) rfl ?_
            refine go_goto e0_261 (tg := 265) (by decide) ?_
            refine go_istore_8 e0_265 rfl ?_
            refine go_iconst e0_267 (x := 1) rfl ?_
            refine go_iload e0_268 rfl ?_
            refine go_icgeN e0_270 (tg := 298) (by decide) (by decide) ?_
            refine go_iload e0_273 rfl ?_
            refine go_ifeqN e0_275 (tg := 295) (by decide) (by decide) ?_
            refine go_aload e0_278 rfl rfl ?_
            refine go_iconst e0_280 (x := 1) rfl ?_
            refine go_virtual_1 e0_281 (wd 32 rfl) (wd 33 rfl) (wd 35 rfl) (wd 34 rfl) (wd 36 rfl) (wd 5 rfl) hy_6 pd_12 rfl (c_start hw (k := 1) rfl rfl (by decide) s1) rfl rfl 0 rfl (by decide) (by decide) (by decide) (by decide) ?_
            rintro _ _ ⟨rfl, rfl⟩
            try simp only [List.replicate_succ, List.replicate_zero, List.set_cons_zero, List.set_cons_succ, List.length_nil, List.length_cons, Nat.zero_add, Nat.reduceAdd, List.nil_append, List.cons_append]
            refine go_aload e0_284 rfl rfl ?_
            refine go_iconst e0_286 (x := 1) rfl ?_
            refine go_iaload e0_287 rfl (k := 1) (by decide) rfl ?_
            refine go_icneN e0_288 (tg := 295) (by decide) (by decide) ?_
            refine go_iconst e0_291 (x := 1) rfl ?_
            refine go_goto e0_292 (tg := 296) (by decide) ?_
            refine go_istore_8 e0_296 rfl ?_
            refine go_iconst e0_298 (x := 2) rfl ?_
            refine go_iload e0_299 rfl ?_
            refine go_icgeN e0_301 (tg := 329) (by decide) (by decide) ?_
            refine go_iload e0_304 rfl ?_
            refine go_ifeqN e0_306 (tg := 326) (by decide) (by decide) ?_
            refine go_aload e0_309 rfl rfl ?_
            refine go_iconst e0_311 (x := 2) rfl ?_
            refine go_virtual_1 e0_312 (wd 32 rfl) (wd 33 rfl) (wd 35 rfl) (wd 34 rfl) (wd 36 rfl) (wd 5 rfl) hy_6 pd_12 rfl (c_start hw (k := 2) rfl rfl (by decide) s2) rfl rfl 0 rfl (by decide) (by decide) (by decide) (by decide) ?_
            rintro _ _ ⟨rfl, rfl⟩
            try simp only [List.replicate_succ, List.replicate_zero, List.set_cons_zero, List.set_cons_succ, List.length_nil, List.length_cons, Nat.zero_add, Nat.reduceAdd, List.nil_append, List.cons_append]
            refine go_aload e0_315 rfl rfl ?_
            refine go_iconst e0_317 (x := 2) rfl ?_
            refine go_iaload e0_318 rfl (k := 2) (by decide) rfl ?_
            refine go_icneN e0_319 (tg := 326) (by decide) (by decide) ?_
            refine go_iconst e0_322 (x := 1) rfl ?_
            refine go_goto e0_323 (tg := 327) (by decide) ?_
            refine go_istore_8 e0_327 rfl ?_
            refine go_iconst e0_329 (x := 3) rfl ?_
            refine go_iload e0_330 rfl ?_
            refine go_icgeY e0_332 (tg := 360) (by decide) (by decide) ?_
            refine go_iconst e0_360 (x := 4) rfl ?_
            refine go_iload e0_361 rfl ?_
            refine go_icgeY e0_363 (tg := 391) (by decide) (by decide) ?_
            refine go_iload e0_391 rfl ?_
            refine go_zreturn e0_393 rfl (by decide) (by decide) (by decide) ?_
            exact rfl
        · intro c141
          refine go_aload e0_144 rfl rfl ?_
          refine go_iload e0_146 rfl ?_
          refine go_iconst e0_148 (x := 3) rfl ?_
          refine go_iastore e0_149 rfl (k := 2) (by decide) (Nat.le_of_ble_eq_true rfl) ?_
          simp only [List.replicate_succ, List.replicate_zero, List.set_cons_zero, List.set_cons_succ, List.length_nil, List.length_cons, Nat.zero_add, Nat.reduceAdd, List.nil_append, List.cons_append]
          refine go_iinc_6 e0_150 (z := 1) rfl ?_
          refine go_iloadN e0_153 rfl ?_
          refine go_iconst e0_154 (x := 3) rfl ?_
          refine go_icleN e0_155 (tg := 176) (by decide) (by decide) ?_
          refine go_aload e0_158 rfl rfl ?_
          refine go_iconst e0_160 (x := 3) rfl ?_
          refine go_baload e0_161 rfl (k := 3) (by decide) rfl ?_
          refine go_bipush e0_162 (x := 10) rfl ?_
          refine go_icne e0_164 (tg := 176) (by decide) ?_ ?_
          · intro c164
            refine go_iloadN e0_176 rfl ?_
            refine go_ifleN e0_177 (tg := 200) (by decide) (by decide) ?_
            refine go_aload e0_180 rfl rfl ?_
            refine go_iloadN e0_182 rfl ?_
            refine go_iconst e0_183 (x := 1) rfl ?_
            refine go_isub e0_184 ?_
            refine go_baload e0_185 rfl (k := 3) (by decide) rfl ?_
            refine go_bipush e0_186 (x := 10) rfl ?_
            refine go_iceqN e0_188 (tg := 200) (by decide) c164 ?_
            refine go_aload e0_191 rfl rfl ?_
            refine go_iload e0_193 rfl ?_
            refine go_iloadN e0_195 rfl ?_
            refine go_iastore e0_196 rfl (k := 3) (by decide) (Nat.le_of_ble_eq_true rfl) ?_
            simp only [List.replicate_succ, List.replicate_zero, List.set_cons_zero, List.set_cons_succ, List.length_nil, List.length_cons, Nat.zero_add, Nat.reduceAdd, List.nil_append, List.cons_append]
            refine go_iinc_6 e0_197 (z := 1) rfl ?_
            refine go_aload e0_200 rfl rfl ?_
            refine go_static_1 e0_202 (wd 3 rfl) (wd 4 rfl) (wd 6 rfl) (wd 5 rfl) hy_6 pd_9 rfl (c_of hw (n := 4) (xs := [x0, x1, x2, x3]) rfl rfl (by decide)) rfl 0 rfl (by decide) (by decide) (by decide) (by decide) ?_
            rintro _ _ ⟨rfl, st, c0, rfl, hc, hsl, hst, hsc⟩
            have hb0 : own_b [x0, x1, x2, x3] 0 = 1 := own_byes (rfl : ([x0, x1, x2, x3] : List Int32)[0]? = some x0) c95
            have hb1 : own_b [x0, x1, x2, x3] 1 = 0 := own_bno (rfl : ([x0, x1, x2, x3] : List Int32)[1]? = some x1) c118
            have hb2 : own_b [x0, x1, x2, x3] 2 = 1 := own_byes (rfl : ([x0, x1, x2, x3] : List Int32)[2]? = some x2) c141
            have hb3 : own_b [x0, x1, x2, x3] 3 = 0 := own_bno (rfl : ([x0, x1, x2, x3] : List Int32)[3]? = some x3) c164
            obtain rfl : c0 = 3 := by
              simp [own_c, own_last, hb0, hb1, hb2, hb3] at hc
              omega
            have s0 : st[0]? = some (N2I 0) := hst 0 0 (by decide) (by simp [own_lf, hb0, hb1, hb2, hb3])
            have s1 : st[1]? = some (N2I 1) := hst 1 1 (by decide) (by simp [own_lf, hb0, hb1, hb2, hb3])
            have s2 : st[2]? = some (N2I 3) := hst 2 3 (by decide) (by simp [own_lf, hb0, hb1, hb2, hb3])
            have s3 : st[3]? = some (N2I 4) := hsc
            try simp only [List.replicate_succ, List.replicate_zero, List.set_cons_zero, List.set_cons_succ, List.length_nil, List.length_cons, Nat.zero_add, Nat.reduceAdd, List.nil_append, List.cons_append]
            refine go_astore_7 e0_205 rfl rfl ?_
            refine go_aload e0_207 rfl rfl ?_
            refine go_virtual_0 e0_209 (wd 22 rfl) (wd 23 rfl) (wd 25 rfl) (wd 24 rfl) (wd 26 rfl) (wd 5 rfl) hy_6 pd_10 rfl (c_data hw rfl) rfl rfl 0 rfl (by decide) (by decide) (by decide) (by decide) ?_
            rintro _ _ ⟨rfl, rfl⟩
            try simp only [List.replicate_succ, List.replicate_zero, List.set_cons_zero, List.set_cons_succ, List.length_nil, List.length_cons, Nat.zero_add, Nat.reduceAdd, List.nil_append, List.cons_append]
            refine go_aload e0_212 rfl rfl ?_
            refine go_acmp e0_214 rfl rfl (same := true) rfl (tg := 219) (by decide) ?_
            show Go C 219 _ _ _ _ _
            refine go_aload e0_219 rfl rfl ?_
            refine go_virtual_0 e0_221 (wd 27 rfl) (wd 28 rfl) (wd 30 rfl) (wd 29 rfl) (wd 31 rfl) (wd 5 rfl) hy_6 pd_11 rfl (c_cnt hw rfl rfl) rfl rfl 0 rfl (by decide) (by decide) (by decide) (by decide) ?_
            rintro _ _ ⟨rfl, rfl⟩
            try simp only [List.replicate_succ, List.replicate_zero, List.set_cons_zero, List.set_cons_succ, List.length_nil, List.length_cons, Nat.zero_add, Nat.reduceAdd, List.nil_append, List.cons_append]
            refine go_iload e0_224 rfl ?_
            refine go_iconst e0_226 (x := 1) rfl ?_
            refine go_isub e0_227 ?_
            refine go_iceqY e0_228 (tg := 233) (by decide) (by rw [hsl]; decide) ?_
            refine go_iconst e0_233 (x := 1) rfl ?_
            refine go_istore_8 e0_234 rfl ?_
            refine go_iconst e0_236 (x := 0) rfl ?_
            refine go_iload e0_237 rfl ?_
            refine go_icgeN e0_239 (tg := 267) (by decide) (by decide) ?_
            refine go_iload e0_242 rfl ?_
            refine go_ifeqN e0_244 (tg := 264) (by decide) (by decide) ?_
            refine go_aload e0_247 rfl rfl ?_
            refine go_iconst e0_249 (x := 0) rfl ?_
            refine go_virtual_1 e0_250 (wd 32 rfl) (wd 33 rfl) (wd 35 rfl) (wd 34 rfl) (wd 36 rfl) (wd 5 rfl) hy_6 pd_12 rfl (c_start hw (k := 0) rfl rfl (by decide) s0) rfl rfl 0 rfl (by decide) (by decide) (by decide) (by decide) ?_
            rintro _ _ ⟨rfl, rfl⟩
            try simp only [List.replicate_succ, List.replicate_zero, List.set_cons_zero, List.set_cons_succ, List.length_nil, List.length_cons, Nat.zero_add, Nat.reduceAdd, List.nil_append, List.cons_append]
            refine go_aload e0_253 rfl rfl ?_
            refine go_iconst e0_255 (x := 0) rfl ?_
            refine go_iaload e0_256 rfl (k := 0) (by decide) rfl ?_
            refine go_icneN e0_257 (tg := 264) (by decide) (by decide) ?_
            refine go_iconst e0_260 (x := 1) rfl ?_
            refine go_goto e0_261 (tg := 265) (by decide) ?_
            refine go_istore_8 e0_265 rfl ?_
            refine go_iconst e0_267 (x := 1) rfl ?_
            refine go_iload e0_268 rfl ?_
            refine go_icgeN e0_270 (tg := 298) (by decide) (by decide) ?_
            refine go_iload e0_273 rfl ?_
            refine go_ifeqN e0_275 (tg := 295) (by decide) (by decide) ?_
            refine go_aload e0_278 rfl rfl ?_
            refine go_iconst e0_280 (x := 1) rfl ?_
            refine go_virtual_1 e0_281 (wd 32 rfl) (wd 33 rfl) (wd 35 rfl) (wd 34 rfl) (wd 36 rfl) (wd 5 rfl) hy_6 pd_12 rfl (c_start hw (k := 1) rfl rfl (by decide) s1) rfl rfl 0 rfl (by decide) (by decide) (by decide) (by decide) ?_
            rintro _ _ ⟨rfl, rfl⟩
            try simp only [List.replicate_succ, List.replicate_zero, List.set_cons_zero, List.set_cons_succ, List.length_nil, List.length_cons, Nat.zero_add, Nat.reduceAdd, List.nil_append, List.cons_append]
            refine go_aload e0_284 rfl rfl ?_
            refine go_iconst e0_286 (x := 1) rfl ?_
            refine go_iaload e0_287 rfl (k := 1) (by decide) rfl ?_
            refine go_icneN e0_288 (tg := 295) (by decide) (by decide) ?_
            refine go_iconst e0_291 (x := 1) rfl ?_
            refine go_goto e0_292 (tg := 296) (by decide) ?_
            refine go_istore_8 e0_296 rfl ?_
            refine go_iconst e0_298 (x := 2) rfl ?_
            refine go_iload e0_299 rfl ?_
            refine go_icgeN e0_301 (tg := 329) (by decide) (by decide) ?_
            refine go_iload e0_304 rfl ?_
            refine go_ifeqN e0_306 (tg := 326) (by decide) (by decide) ?_
            refine go_aload e0_309 rfl rfl ?_
            refine go_iconst e0_311 (x := 2) rfl ?_
            refine go_virtual_1 e0_312 (wd 32 rfl) (wd 33 rfl) (wd 35 rfl) (wd 34 rfl) (wd 36 rfl) (wd 5 rfl) hy_6 pd_12 rfl (c_start hw (k := 2) rfl rfl (by decide) s2) rfl rfl 0 rfl (by decide) (by decide) (by decide) (by decide) ?_
            rintro _ _ ⟨rfl, rfl⟩
            try simp only [List.replicate_succ, List.replicate_zero, List.set_cons_zero, List.set_cons_succ, List.length_nil, List.length_cons, Nat.zero_add, Nat.reduceAdd, List.nil_append, List.cons_append]
            refine go_aload e0_315 rfl rfl ?_
            refine go_iconst e0_317 (x := 2) rfl ?_
            refine go_iaload e0_318 rfl (k := 2) (by decide) rfl ?_
            refine go_icneN e0_319 (tg := 326) (by decide) (by decide) ?_
            refine go_iconst e0_322 (x := 1) rfl ?_
            refine go_goto e0_323 (tg := 327) (by decide) ?_
            refine go_istore_8 e0_327 rfl ?_
            refine go_iconst e0_329 (x := 3) rfl ?_
            refine go_iload e0_330 rfl ?_
            refine go_icgeN e0_332 (tg := 360) (by decide) (by decide) ?_
            refine go_iload e0_335 rfl ?_
            refine go_ifeqN e0_337 (tg := 357) (by decide) (by decide) ?_
            refine go_aload e0_340 rfl rfl ?_
            refine go_iconst e0_342 (x := 3) rfl ?_
            refine go_virtual_1 e0_343 (wd 32 rfl) (wd 33 rfl) (wd 35 rfl) (wd 34 rfl) (wd 36 rfl) (wd 5 rfl) hy_6 pd_12 rfl (c_start hw (k := 3) rfl rfl (by decide) s3) rfl rfl 0 rfl (by decide) (by decide) (by decide) (by decide) ?_
            rintro _ _ ⟨rfl, rfl⟩
            try simp only [List.replicate_succ, List.replicate_zero, List.set_cons_zero, List.set_cons_succ, List.length_nil, List.length_cons, Nat.zero_add, Nat.reduceAdd, List.nil_append, List.cons_append]
            refine go_aload e0_346 rfl rfl ?_
            refine go_iconst e0_348 (x := 3) rfl ?_
            refine go_iaload e0_349 rfl (k := 3) (by decide) rfl ?_
            refine go_icneN e0_350 (tg := 357) (by decide) (by decide) ?_
            refine go_iconst e0_353 (x := 1) rfl ?_
            refine go_goto e0_354 (tg := 358) (by decide) ?_
            refine go_istore_8 e0_358 rfl ?_
            refine go_iconst e0_360 (x := 4) rfl ?_
            refine go_iload e0_361 rfl ?_
            refine go_icgeY e0_363 (tg := 391) (by decide) (by decide) ?_
            refine go_iload e0_391 rfl ?_
            refine go_zreturn e0_393 rfl (by decide) (by decide) (by decide) ?_
            exact rfl
          · intro c164
            refine go_aload e0_167 rfl rfl ?_
            refine go_iload e0_169 rfl ?_
            refine go_iconst e0_171 (x := 4) rfl ?_
            refine go_iastore e0_172 rfl (k := 3) (by decide) (Nat.le_of_ble_eq_true rfl) ?_
            simp only [List.replicate_succ, List.replicate_zero, List.set_cons_zero, List.set_cons_succ, List.length_nil, List.length_cons, Nat.zero_add, Nat.reduceAdd, List.nil_append, List.cons_append]
            refine go_iinc_6 e0_173 (z := 1) rfl ?_
            refine go_iloadN e0_176 rfl ?_
            refine go_ifleN e0_177 (tg := 200) (by decide) (by decide) ?_
            refine go_aload e0_180 rfl rfl ?_
            refine go_iloadN e0_182 rfl ?_
            refine go_iconst e0_183 (x := 1) rfl ?_
            refine go_isub e0_184 ?_
            refine go_baload e0_185 rfl (k := 3) (by decide) rfl ?_
            refine go_bipush e0_186 (x := 10) rfl ?_
            refine go_iceqY e0_188 (tg := 200) (by decide) c164 ?_
            refine go_aload e0_200 rfl rfl ?_
            refine go_static_1 e0_202 (wd 3 rfl) (wd 4 rfl) (wd 6 rfl) (wd 5 rfl) hy_6 pd_9 rfl (c_of hw (n := 4) (xs := [x0, x1, x2, x3]) rfl rfl (by decide)) rfl 0 rfl (by decide) (by decide) (by decide) (by decide) ?_
            rintro _ _ ⟨rfl, st, c0, rfl, hc, hsl, hst, hsc⟩
            have hb0 : own_b [x0, x1, x2, x3] 0 = 1 := own_byes (rfl : ([x0, x1, x2, x3] : List Int32)[0]? = some x0) c95
            have hb1 : own_b [x0, x1, x2, x3] 1 = 0 := own_bno (rfl : ([x0, x1, x2, x3] : List Int32)[1]? = some x1) c118
            have hb2 : own_b [x0, x1, x2, x3] 2 = 1 := own_byes (rfl : ([x0, x1, x2, x3] : List Int32)[2]? = some x2) c141
            have hb3 : own_b [x0, x1, x2, x3] 3 = 1 := own_byes (rfl : ([x0, x1, x2, x3] : List Int32)[3]? = some x3) c164
            obtain rfl : c0 = 3 := by
              simp [own_c, own_last, hb0, hb1, hb2, hb3] at hc
              omega
            have s0 : st[0]? = some (N2I 0) := hst 0 0 (by decide) (by simp [own_lf, hb0, hb1, hb2, hb3])
            have s1 : st[1]? = some (N2I 1) := hst 1 1 (by decide) (by simp [own_lf, hb0, hb1, hb2, hb3])
            have s2 : st[2]? = some (N2I 3) := hst 2 3 (by decide) (by simp [own_lf, hb0, hb1, hb2, hb3])
            have s3 : st[3]? = some (N2I 4) := hsc
            try simp only [List.replicate_succ, List.replicate_zero, List.set_cons_zero, List.set_cons_succ, List.length_nil, List.length_cons, Nat.zero_add, Nat.reduceAdd, List.nil_append, List.cons_append]
            refine go_astore_7 e0_205 rfl rfl ?_
            refine go_aload e0_207 rfl rfl ?_
            refine go_virtual_0 e0_209 (wd 22 rfl) (wd 23 rfl) (wd 25 rfl) (wd 24 rfl) (wd 26 rfl) (wd 5 rfl) hy_6 pd_10 rfl (c_data hw rfl) rfl rfl 0 rfl (by decide) (by decide) (by decide) (by decide) ?_
            rintro _ _ ⟨rfl, rfl⟩
            try simp only [List.replicate_succ, List.replicate_zero, List.set_cons_zero, List.set_cons_succ, List.length_nil, List.length_cons, Nat.zero_add, Nat.reduceAdd, List.nil_append, List.cons_append]
            refine go_aload e0_212 rfl rfl ?_
            refine go_acmp e0_214 rfl rfl (same := true) rfl (tg := 219) (by decide) ?_
            show Go C 219 _ _ _ _ _
            refine go_aload e0_219 rfl rfl ?_
            refine go_virtual_0 e0_221 (wd 27 rfl) (wd 28 rfl) (wd 30 rfl) (wd 29 rfl) (wd 31 rfl) (wd 5 rfl) hy_6 pd_11 rfl (c_cnt hw rfl rfl) rfl rfl 0 rfl (by decide) (by decide) (by decide) (by decide) ?_
            rintro _ _ ⟨rfl, rfl⟩
            try simp only [List.replicate_succ, List.replicate_zero, List.set_cons_zero, List.set_cons_succ, List.length_nil, List.length_cons, Nat.zero_add, Nat.reduceAdd, List.nil_append, List.cons_append]
            refine go_iload e0_224 rfl ?_
            refine go_iconst e0_226 (x := 1) rfl ?_
            refine go_isub e0_227 ?_
            refine go_iceqY e0_228 (tg := 233) (by decide) (by rw [hsl]; decide) ?_
            refine go_iconst e0_233 (x := 1) rfl ?_
            refine go_istore_8 e0_234 rfl ?_
            refine go_iconst e0_236 (x := 0) rfl ?_
            refine go_iload e0_237 rfl ?_
            refine go_icgeN e0_239 (tg := 267) (by decide) (by decide) ?_
            refine go_iload e0_242 rfl ?_
            refine go_ifeqN e0_244 (tg := 264) (by decide) (by decide) ?_
            refine go_aload e0_247 rfl rfl ?_
            refine go_iconst e0_249 (x := 0) rfl ?_
            refine go_virtual_1 e0_250 (wd 32 rfl) (wd 33 rfl) (wd 35 rfl) (wd 34 rfl) (wd 36 rfl) (wd 5 rfl) hy_6 pd_12 rfl (c_start hw (k := 0) rfl rfl (by decide) s0) rfl rfl 0 rfl (by decide) (by decide) (by decide) (by decide) ?_
            rintro _ _ ⟨rfl, rfl⟩
            try simp only [List.replicate_succ, List.replicate_zero, List.set_cons_zero, List.set_cons_succ, List.length_nil, List.length_cons, Nat.zero_add, Nat.reduceAdd, List.nil_append, List.cons_append]
            refine go_aload e0_253 rfl rfl ?_
            refine go_iconst e0_255 (x := 0) rfl ?_
            refine go_iaload e0_256 rfl (k := 0) (by decide) rfl ?_
            refine go_icneN e0_257 (tg := 264) (by decide) (by decide) ?_
            refine go_iconst e0_260 (x := 1) rfl ?_
            refine go_goto e0_261 (tg := 265) (by decide) ?_
            refine go_istore_8 e0_265 rfl ?_
            refine go_iconst e0_267 (x := 1) rfl ?_
            refine go_iload e0_268 rfl ?_
            refine go_icgeN e0_270 (tg := 298) (by decide) (by decide) ?_
            refine go_iload e0_273 rfl ?_
            refine go_ifeqN e0_275 (tg := 295) (by decide) (by decide) ?_
            refine go_aload e0_278 rfl rfl ?_
            refine go_iconst e0_280 (x := 1) rfl ?_
            refine go_virtual_1 e0_281 (wd 32 rfl) (wd 33 rfl) (wd 35 rfl) (wd 34 rfl) (wd 36 rfl) (wd 5 rfl) hy_6 pd_12 rfl (c_start hw (k := 1) rfl rfl (by decide) s1) rfl rfl 0 rfl (by decide) (by decide) (by decide) (by decide) ?_
            rintro _ _ ⟨rfl, rfl⟩
            try simp only [List.replicate_succ, List.replicate_zero, List.set_cons_zero, List.set_cons_succ, List.length_nil, List.length_cons, Nat.zero_add, Nat.reduceAdd, List.nil_append, List.cons_append]
            refine go_aload e0_284 rfl rfl ?_
            refine go_iconst e0_286 (x := 1) rfl ?_
            refine go_iaload e0_287 rfl (k := 1) (by decide) rfl ?_
            refine go_icneN e0_288 (tg := 295) (by decide) (by decide) ?_
            refine go_iconst e0_291 (x := 1) rfl ?_
            refine go_goto e0_292 (tg := 296) (by decide) ?_
            refine go_istore_8 e0_296 rfl ?_
            refine go_iconst e0_298 (x := 2) rfl ?_
            refine go_iload e0_299 rfl ?_
            refine go_icgeN e0_301 (tg := 329) (by decide) (by decide) ?_
            refine go_iload e0_304 rfl ?_
            refine go_ifeqN e0_306 (tg := 326) (by decide) (by decide) ?_
            refine go_aload e0_309 rfl rfl ?_
            refine go_iconst e0_311 (x := 2) rfl ?_
            refine go_virtual_1 e0_312 (wd 32 rfl) (wd 33 rfl) (wd 35 rfl) (wd 34 rfl) (wd 36 rfl) (wd 5 rfl) hy_6 pd_12 rfl (c_start hw (k := 2) rfl rfl (by decide) s2) rfl rfl 0 rfl (by decide) (by decide) (by decide) (by decide) ?_
            rintro _ _ ⟨rfl, rfl⟩
            try simp only [List.replicate_succ, List.replicate_zero, List.set_cons_zero, List.set_cons_succ, List.length_nil, List.length_cons, Nat.zero_add, Nat.reduceAdd, List.nil_append, List.cons_append]
            refine go_aload e0_315 rfl rfl ?_
            refine go_iconst e0_317 (x := 2) rfl ?_
            refine go_iaload e0_318 rfl (k := 2) (by decide) rfl ?_
            refine go_icneN e0_319 (tg := 326) (by decide) (by decide) ?_
            refine go_iconst e0_322 (x := 1) rfl ?_
            refine go_goto e0_323 (tg := 327) (by decide) ?_
            refine go_istore_8 e0_327 rfl ?_
            refine go_iconst e0_329 (x := 3) rfl ?_
            refine go_iload e0_330 rfl ?_
            refine go_icgeN e0_332 (tg := 360) (by decide) (by decide) ?_
            refine go_iload e0_335 rfl ?_
            refine go_ifeqN e0_337 (tg := 357) (by decide) (by decide) ?_
            refine go_aload e0_340 rfl rfl ?_
            refine go_iconst e0_342 (x := 3) rfl ?_
            refine go_virtual_1 e0_343 (wd 32 rfl) (wd 33 rfl) (wd 35 rfl) (wd 34 rfl) (wd 36 rfl) (wd 5 rfl) hy_6 pd_12 rfl (c_start hw (k := 3) rfl rfl (by decide) s3) rfl rfl 0 rfl (by decide) (by decide) (by decide) (by decide) ?_
            rintro _ _ ⟨rfl, rfl⟩
            try simp only [List.replicate_succ, List.replicate_zero, List.set_cons_zero, List.set_cons_succ, List.length_nil, List.length_cons, Nat.zero_add, Nat.reduceAdd, List.nil_append, List.cons_append]
            refine go_aload e0_346 rfl rfl ?_
            refine go_iconst e0_348 (x := 3) rfl ?_
            refine go_iaload e0_349 rfl (k := 3) (by decide) rfl ?_
            refine go_icneN e0_350 (tg := 357) (by decide) (by decide) ?_
            refine go_iconst e0_353 (x := 1) rfl ?_
            refine go_goto e0_354 (tg := 358) (by decide) ?_
            refine go_istore_8 e0_358 rfl ?_
            refine go_iconst e0_360 (x := 4) rfl ?_
            refine go_iload e0_361 rfl ?_
            refine go_icgeY e0_363 (tg := 391) (by decide) (by decide) ?_
            refine go_iload e0_391 rfl ?_
            refine go_zreturn e0_393 rfl (by decide) (by decide) (by decide) ?_
            exact rfl
      · intro c118
        refine go_aload e0_121 rfl rfl ?_
        refine go_iload e0_123 rfl ?_
        refine go_iconst e0_125 (x := 2) rfl ?_
        refine go_iastore e0_126 rfl (k := 2) (by decide) (Nat.le_of_ble_eq_true rfl) ?_
        simp only [List.replicate_succ, List.replicate_zero, List.set_cons_zero, List.set_cons_succ, List.length_nil, List.length_cons, Nat.zero_add, Nat.reduceAdd, List.nil_append, List.cons_append]
        refine go_iinc_6 e0_127 (z := 1) rfl ?_
        refine go_iloadN e0_130 rfl ?_
        refine go_iconst e0_131 (x := 2) rfl ?_
        refine go_icleN e0_132 (tg := 153) (by decide) (by decide) ?_
        refine go_aload e0_135 rfl rfl ?_
        refine go_iconst e0_137 (x := 2) rfl ?_
        refine go_baload e0_138 rfl (k := 2) (by decide) rfl ?_
        refine go_bipush e0_139 (x := 10) rfl ?_
        refine go_icne e0_141 (tg := 153) (by decide) ?_ ?_
        · intro c141
          refine go_iloadN e0_153 rfl ?_
          refine go_iconst e0_154 (x := 3) rfl ?_
          refine go_icleN e0_155 (tg := 176) (by decide) (by decide) ?_
          refine go_aload e0_158 rfl rfl ?_
          refine go_iconst e0_160 (x := 3) rfl ?_
          refine go_baload e0_161 rfl (k := 3) (by decide) rfl ?_
          refine go_bipush e0_162 (x := 10) rfl ?_
          refine go_icne e0_164 (tg := 176) (by decide) ?_ ?_
          · intro c164
            refine go_iloadN e0_176 rfl ?_
            refine go_ifleN e0_177 (tg := 200) (by decide) (by decide) ?_
            refine go_aload e0_180 rfl rfl ?_
            refine go_iloadN e0_182 rfl ?_
            refine go_iconst e0_183 (x := 1) rfl ?_
            refine go_isub e0_184 ?_
            refine go_baload e0_185 rfl (k := 3) (by decide) rfl ?_
            refine go_bipush e0_186 (x := 10) rfl ?_
            refine go_iceqN e0_188 (tg := 200) (by decide) c164 ?_
            refine go_aload e0_191 rfl rfl ?_
            refine go_iload e0_193 rfl ?_
            refine go_iloadN e0_195 rfl ?_
            refine go_iastore e0_196 rfl (k := 3) (by decide) (Nat.le_of_ble_eq_true rfl) ?_
            simp only [List.replicate_succ, List.replicate_zero, List.set_cons_zero, List.set_cons_succ, List.length_nil, List.length_cons, Nat.zero_add, Nat.reduceAdd, List.nil_append, List.cons_append]
            refine go_iinc_6 e0_197 (z := 1) rfl ?_
            refine go_aload e0_200 rfl rfl ?_
            refine go_static_1 e0_202 (wd 3 rfl) (wd 4 rfl) (wd 6 rfl) (wd 5 rfl) hy_6 pd_9 rfl (c_of hw (n := 4) (xs := [x0, x1, x2, x3]) rfl rfl (by decide)) rfl 0 rfl (by decide) (by decide) (by decide) (by decide) ?_
            rintro _ _ ⟨rfl, st, c0, rfl, hc, hsl, hst, hsc⟩
            have hb0 : own_b [x0, x1, x2, x3] 0 = 1 := own_byes (rfl : ([x0, x1, x2, x3] : List Int32)[0]? = some x0) c95
            have hb1 : own_b [x0, x1, x2, x3] 1 = 1 := own_byes (rfl : ([x0, x1, x2, x3] : List Int32)[1]? = some x1) c118
            have hb2 : own_b [x0, x1, x2, x3] 2 = 0 := own_bno (rfl : ([x0, x1, x2, x3] : List Int32)[2]? = some x2) c141
            have hb3 : own_b [x0, x1, x2, x3] 3 = 0 := own_bno (rfl : ([x0, x1, x2, x3] : List Int32)[3]? = some x3) c164
            obtain rfl : c0 = 3 := by
              simp [own_c, own_last, hb0, hb1, hb2, hb3] at hc
              omega
            have s0 : st[0]? = some (N2I 0) := hst 0 0 (by decide) (by simp [own_lf, hb0, hb1, hb2, hb3])
            have s1 : st[1]? = some (N2I 1) := hst 1 1 (by decide) (by simp [own_lf, hb0, hb1, hb2, hb3])
            have s2 : st[2]? = some (N2I 2) := hst 2 2 (by decide) (by simp [own_lf, hb0, hb1, hb2, hb3])
            have s3 : st[3]? = some (N2I 4) := hsc
            try simp only [List.replicate_succ, List.replicate_zero, List.set_cons_zero, List.set_cons_succ, List.length_nil, List.length_cons, Nat.zero_add, Nat.reduceAdd, List.nil_append, List.cons_append]
            refine go_astore_7 e0_205 rfl rfl ?_
            refine go_aload e0_207 rfl rfl ?_
            refine go_virtual_0 e0_209 (wd 22 rfl) (wd 23 rfl) (wd 25 rfl) (wd 24 rfl) (wd 26 rfl) (wd 5 rfl) hy_6 pd_10 rfl (c_data hw rfl) rfl rfl 0 rfl (by decide) (by decide) (by decide) (by decide) ?_
            rintro _ _ ⟨rfl, rfl⟩
            try simp only [List.replicate_succ, List.replicate_zero, List.set_cons_zero, List.set_cons_succ, List.length_nil, List.length_cons, Nat.zero_add, Nat.reduceAdd, List.nil_append, List.cons_append]
            refine go_aload e0_212 rfl rfl ?_
            refine go_acmp e0_214 rfl rfl (same := true) rfl (tg := 219) (by decide) ?_
            show Go C 219 _ _ _ _ _
            refine go_aload e0_219 rfl rfl ?_
            refine go_virtual_0 e0_221 (wd 27 rfl) (wd 28 rfl) (wd 30 rfl) (wd 29 rfl) (wd 31 rfl) (wd 5 rfl) hy_6 pd_11 rfl (c_cnt hw rfl rfl) rfl rfl 0 rfl (by decide) (by decide) (by decide) (by decide) ?_
            rintro _ _ ⟨rfl, rfl⟩
            try simp only [List.replicate_succ, List.replicate_zero, List.set_cons_zero, List.set_cons_succ, List.length_nil, List.length_cons, Nat.zero_add, Nat.reduceAdd, List.nil_append, List.cons_append]
            refine go_iload e0_224 rfl ?_
            refine go_iconst e0_226 (x := 1) rfl ?_
            refine go_isub e0_227 ?_
            refine go_iceqY e0_228 (tg := 233) (by decide) (by rw [hsl]; decide) ?_
            refine go_iconst e0_233 (x := 1) rfl ?_
            refine go_istore_8 e0_234 rfl ?_
            refine go_iconst e0_236 (x := 0) rfl ?_
            refine go_iload e0_237 rfl ?_
            refine go_icgeN e0_239 (tg := 267) (by decide) (by decide) ?_
            refine go_iload e0_242 rfl ?_
            refine go_ifeqN e0_244 (tg := 264) (by decide) (by decide) ?_
            refine go_aload e0_247 rfl rfl ?_
            refine go_iconst e0_249 (x := 0) rfl ?_
            refine go_virtual_1 e0_250 (wd 32 rfl) (wd 33 rfl) (wd 35 rfl) (wd 34 rfl) (wd 36 rfl) (wd 5 rfl) hy_6 pd_12 rfl (c_start hw (k := 0) rfl rfl (by decide) s0) rfl rfl 0 rfl (by decide) (by decide) (by decide) (by decide) ?_
            rintro _ _ ⟨rfl, rfl⟩
            try simp only [List.replicate_succ, List.replicate_zero, List.set_cons_zero, List.set_cons_succ, List.length_nil, List.length_cons, Nat.zero_add, Nat.reduceAdd, List.nil_append, List.cons_append]
            refine go_aload e0_253 rfl rfl ?_
            refine go_iconst e0_255 (x := 0) rfl ?_
            refine go_iaload e0_256 rfl (k := 0) (by decide) rfl ?_
            refine go_icneN e0_257 (tg := 264) (by decide) (by decide) ?_
            refine go_iconst e0_260 (x := 1) rfl ?_
            refine go_goto e0_261 (tg := 265) (by decide) ?_
            refine go_istore_8 e0_265 rfl ?_
            refine go_iconst e0_267 (x := 1) rfl ?_
            refine go_iload e0_268 rfl ?_
            refine go_icgeN e0_270 (tg := 298) (by decide) (by decide) ?_
            refine go_iload e0_273 rfl ?_
            refine go_ifeqN e0_275 (tg := 295) (by decide) (by decide) ?_
            refine go_aload e0_278 rfl rfl ?_
            refine go_iconst e0_280 (x := 1) rfl ?_
            refine go_virtual_1 e0_281 (wd 32 rfl) (wd 33 rfl) (wd 35 rfl) (wd 34 rfl) (wd 36 rfl) (wd 5 rfl) hy_6 pd_12 rfl (c_start hw (k := 1) rfl rfl (by decide) s1) rfl rfl 0 rfl (by decide) (by decide) (by decide) (by decide) ?_
            rintro _ _ ⟨rfl, rfl⟩
            try simp only [List.replicate_succ, List.replicate_zero, List.set_cons_zero, List.set_cons_succ, List.length_nil, List.length_cons, Nat.zero_add, Nat.reduceAdd, List.nil_append, List.cons_append]
            refine go_aload e0_284 rfl rfl ?_
            refine go_iconst e0_286 (x := 1) rfl ?_
            refine go_iaload e0_287 rfl (k := 1) (by decide) rfl ?_
            refine go_icneN e0_288 (tg := 295) (by decide) (by decide) ?_
            refine go_iconst e0_291 (x := 1) rfl ?_
            refine go_goto e0_292 (tg := 296) (by decide) ?_
            refine go_istore_8 e0_296 rfl ?_
            refine go_iconst e0_298 (x := 2) rfl ?_
            refine go_iload e0_299 rfl ?_
            refine go_icgeN e0_301 (tg := 329) (by decide) (by decide) ?_
            refine go_iload e0_304 rfl ?_
            refine go_ifeqN e0_306 (tg := 326) (by decide) (by decide) ?_
            refine go_aload e0_309 rfl rfl ?_
            refine go_iconst e0_311 (x := 2) rfl ?_
            refine go_virtual_1 e0_312 (wd 32 rfl) (wd 33 rfl) (wd 35 rfl) (wd 34 rfl) (wd 36 rfl) (wd 5 rfl) hy_6 pd_12 rfl (c_start hw (k := 2) rfl rfl (by decide) s2) rfl rfl 0 rfl (by decide) (by decide) (by decide) (by decide) ?_
            rintro _ _ ⟨rfl, rfl⟩
            try simp only [List.replicate_succ, List.replicate_zero, List.set_cons_zero, List.set_cons_succ, List.length_nil, List.length_cons, Nat.zero_add, Nat.reduceAdd, List.nil_append, List.cons_append]
            refine go_aload e0_315 rfl rfl ?_
            refine go_iconst e0_317 (x := 2) rfl ?_
            refine go_iaload e0_318 rfl (k := 2) (by decide) rfl ?_
            refine go_icneN e0_319 (tg := 326) (by decide) (by decide) ?_
            refine go_iconst e0_322 (x := 1) rfl ?_
            refine go_goto e0_323 (tg := 327) (by decide) ?_
            refine go_istore_8 e0_327 rfl ?_
            refine go_iconst e0_329 (x := 3) rfl ?_
            refine go_iload e0_330 rfl ?_
            refine go_icgeN e0_332 (tg := 360) (by decide) (by decide) ?_
            refine go_iload e0_335 rfl ?_
            refine go_ifeqN e0_337 (tg := 357) (by decide) (by decide) ?_
            refine go_aload e0_340 rfl rfl ?_
            refine go_iconst e0_342 (x := 3) rfl ?_
            refine go_virtual_1 e0_343 (wd 32 rfl) (wd 33 rfl) (wd 35 rfl) (wd 34 rfl) (wd 36 rfl) (wd 5 rfl) hy_6 pd_12 rfl (c_start hw (k := 3) rfl rfl (by decide) s3) rfl rfl 0 rfl (by decide) (by decide) (by decide) (by decide) ?_
            rintro _ _ ⟨rfl, rfl⟩
            try simp only [List.replicate_succ, List.replicate_zero, List.set_cons_zero, List.set_cons_succ, List.length_nil, List.length_cons, Nat.zero_add, Nat.reduceAdd, List.nil_append, List.cons_append]
            refine go_aload e0_346 rfl rfl ?_
            refine go_iconst e0_348 (x := 3) rfl ?_
            refine go_iaload e0_349 rfl (k := 3) (by decide) rfl ?_
            refine go_icneN e0_350 (tg := 357) (by decide) (by decide) ?_
            refine go_iconst e0_353 (x := 1) rfl ?_
            refine go_goto e0_354 (tg := 358) (by decide) ?_
            refine go_istore_8 e0_358 rfl ?_
            refine go_iconst e0_360 (x := 4) rfl ?_
            refine go_iload e0_361 rfl ?_
            refine go_icgeY e0_363 (tg := 391) (by decide) (by decide) ?_
            refine go_iload e0_391 rfl ?_
            refine go_zreturn e0_393 rfl (by decide) (by decide) (by decide) ?_
            exact rfl
          · intro c164
            refine go_aload e0_167 rfl rfl ?_
            refine go_iload e0_169 rfl ?_
            refine go_iconst e0_171 (x := 4) rfl ?_
            refine go_iastore e0_172 rfl (k := 3) (by decide) (Nat.le_of_ble_eq_true rfl) ?_
            simp only [List.replicate_succ, List.replicate_zero, List.set_cons_zero, List.set_cons_succ, List.length_nil, List.length_cons, Nat.zero_add, Nat.reduceAdd, List.nil_append, List.cons_append]
            refine go_iinc_6 e0_173 (z := 1) rfl ?_
            refine go_iloadN e0_176 rfl ?_
            refine go_ifleN e0_177 (tg := 200) (by decide) (by decide) ?_
            refine go_aload e0_180 rfl rfl ?_
            refine go_iloadN e0_182 rfl ?_
            refine go_iconst e0_183 (x := 1) rfl ?_
            refine go_isub e0_184 ?_
            refine go_baload e0_185 rfl (k := 3) (by decide) rfl ?_
            refine go_bipush e0_186 (x := 10) rfl ?_
            refine go_iceqY e0_188 (tg := 200) (by decide) c164 ?_
            refine go_aload e0_200 rfl rfl ?_
            refine go_static_1 e0_202 (wd 3 rfl) (wd 4 rfl) (wd 6 rfl) (wd 5 rfl) hy_6 pd_9 rfl (c_of hw (n := 4) (xs := [x0, x1, x2, x3]) rfl rfl (by decide)) rfl 0 rfl (by decide) (by decide) (by decide) (by decide) ?_
            rintro _ _ ⟨rfl, st, c0, rfl, hc, hsl, hst, hsc⟩
            have hb0 : own_b [x0, x1, x2, x3] 0 = 1 := own_byes (rfl : ([x0, x1, x2, x3] : List Int32)[0]? = some x0) c95
            have hb1 : own_b [x0, x1, x2, x3] 1 = 1 := own_byes (rfl : ([x0, x1, x2, x3] : List Int32)[1]? = some x1) c118
            have hb2 : own_b [x0, x1, x2, x3] 2 = 0 := own_bno (rfl : ([x0, x1, x2, x3] : List Int32)[2]? = some x2) c141
            have hb3 : own_b [x0, x1, x2, x3] 3 = 1 := own_byes (rfl : ([x0, x1, x2, x3] : List Int32)[3]? = some x3) c164
            obtain rfl : c0 = 3 := by
              simp [own_c, own_last, hb0, hb1, hb2, hb3] at hc
              omega
            have s0 : st[0]? = some (N2I 0) := hst 0 0 (by decide) (by simp [own_lf, hb0, hb1, hb2, hb3])
            have s1 : st[1]? = some (N2I 1) := hst 1 1 (by decide) (by simp [own_lf, hb0, hb1, hb2, hb3])
            have s2 : st[2]? = some (N2I 2) := hst 2 2 (by decide) (by simp [own_lf, hb0, hb1, hb2, hb3])
            have s3 : st[3]? = some (N2I 4) := hsc
            try simp only [List.replicate_succ, List.replicate_zero, List.set_cons_zero, List.set_cons_succ, List.length_nil, List.length_cons, Nat.zero_add, Nat.reduceAdd, List.nil_append, List.cons_append]
            refine go_astore_7 e0_205 rfl rfl ?_
            refine go_aload e0_207 rfl rfl ?_
            refine go_virtual_0 e0_209 (wd 22 rfl) (wd 23 rfl) (wd 25 rfl) (wd 24 rfl) (wd 26 rfl) (wd 5 rfl) hy_6 pd_10 rfl (c_data hw rfl) rfl rfl 0 rfl (by decide) (by decide) (by decide) (by decide) ?_
            rintro _ _ ⟨rfl, rfl⟩
            try simp only [List.replicate_succ, List.replicate_zero, List.set_cons_zero, List.set_cons_succ, List.length_nil, List.length_cons, Nat.zero_add, Nat.reduceAdd, List.nil_append, List.cons_append]
            refine go_aload e0_212 rfl rfl ?_
            refine go_acmp e0_214 rfl rfl (same := true) rfl (tg := 219) (by decide) ?_
            show Go C 219 _ _ _ _ _
            refine go_aload e0_219 rfl rfl ?_
            refine go_virtual_0 e0_221 (wd 27 rfl) (wd 28 rfl) (wd 30 rfl) (wd 29 rfl) (wd 31 rfl) (wd 5 rfl) hy_6 pd_11 rfl (c_cnt hw rfl rfl) rfl rfl 0 rfl (by decide) (by decide) (by decide) (by decide) ?_
            rintro _ _ ⟨rfl, rfl⟩
            try simp only [List.replicate_succ, List.replicate_zero, List.set_cons_zero, List.set_cons_succ, List.length_nil, List.length_cons, Nat.zero_add, Nat.reduceAdd, List.nil_append, List.cons_append]
            refine go_iload e0_224 rfl ?_
            refine go_iconst e0_226 (x := 1) rfl ?_
            refine go_isub e0_227 ?_
            refine go_iceqY e0_228 (tg := 233) (by decide) (by rw [hsl]; decide) ?_
            refine go_iconst e0_233 (x := 1) rfl ?_
            refine go_istore_8 e0_234 rfl ?_
            refine go_iconst e0_236 (x := 0) rfl ?_
            refine go_iload e0_237 rfl ?_
            refine go_icgeN e0_239 (tg := 267) (by decide) (by decide) ?_
            refine go_iload e0_242 rfl ?_
            refine go_ifeqN e0_244 (tg := 264) (by decide) (by decide) ?_
            refine go_aload e0_247 rfl rfl ?_
            refine go_iconst e0_249 (x := 0) rfl ?_
            refine go_virtual_1 e0_250 (wd 32 rfl) (wd 33 rfl) (wd 35 rfl) (wd 34 rfl) (wd 36 rfl) (wd 5 rfl) hy_6 pd_12 rfl (c_start hw (k := 0) rfl rfl (by decide) s0) rfl rfl 0 rfl (by decide) (by decide) (by decide) (by decide) ?_
            rintro _ _ ⟨rfl, rfl⟩
            try simp only [List.replicate_succ, List.replicate_zero, List.set_cons_zero, List.set_cons_succ, List.length_nil, List.length_cons, Nat.zero_add, Nat.reduceAdd, List.nil_append, List.cons_append]
            refine go_aload e0_253 rfl rfl ?_
            refine go_iconst e0_255 (x := 0) rfl ?_
            refine go_iaload e0_256 rfl (k := 0) (by decide) rfl ?_
            refine go_icneN e0_257 (tg := 264) (by decide) (by decide) ?_
            refine go_iconst e0_260 (x := 1) rfl ?_
            refine go_goto e0_261 (tg := 265) (by decide) ?_
            refine go_istore_8 e0_265 rfl ?_
            refine go_iconst e0_267 (x := 1) rfl ?_
            refine go_iload e0_268 rfl ?_
            refine go_icgeN e0_270 (tg := 298) (by decide) (by decide) ?_
            refine go_iload e0_273 rfl ?_
            refine go_ifeqN e0_275 (tg := 295) (by decide) (by decide) ?_
            refine go_aload e0_278 rfl rfl ?_
            refine go_iconst e0_280 (x := 1) rfl ?_
            refine go_virtual_1 e0_281 (wd 32 rfl) (wd 33 rfl) (wd 35 rfl) (wd 34 rfl) (wd 36 rfl) (wd 5 rfl) hy_6 pd_12 rfl (c_start hw (k := 1) rfl rfl (by decide) s1) rfl rfl 0 rfl (by decide) (by decide) (by decide) (by decide) ?_
            rintro _ _ ⟨rfl, rfl⟩
            try simp only [List.replicate_succ, List.replicate_zero, List.set_cons_zero, List.set_cons_succ, List.length_nil, List.length_cons, Nat.zero_add, Nat.reduceAdd, List.nil_append, List.cons_append]
            refine go_aload e0_284 rfl rfl ?_
            refine go_iconst e0_286 (x := 1) rfl ?_
            refine go_iaload e0_287 rfl (k := 1) (by decide) rfl ?_
            refine go_icneN e0_288 (tg := 295) (by decide) (by decide) ?_
            refine go_iconst e0_291 (x := 1) rfl ?_
            refine go_goto e0_292 (tg := 296) (by decide) ?_
            refine go_istore_8 e0_296 rfl ?_
            refine go_iconst e0_298 (x := 2) rfl ?_
            refine go_iload e0_299 rfl ?_
            refine go_icgeN e0_301 (tg := 329) (by decide) (by decide) ?_
            refine go_iload e0_304 rfl ?_
            refine go_ifeqN e0_306 (tg := 326) (by decide) (by decide) ?_
            refine go_aload e0_309 rfl rfl ?_
            refine go_iconst e0_311 (x := 2) rfl ?_
            refine go_virtual_1 e0_312 (wd 32 rfl) (wd 33 rfl) (wd 35 rfl) (wd 34 rfl) (wd 36 rfl) (wd 5 rfl) hy_6 pd_12 rfl (c_start hw (k := 2) rfl rfl (by decide) s2) rfl rfl 0 rfl (by decide) (by decide) (by decide) (by decide) ?_
            rintro _ _ ⟨rfl, rfl⟩
            try simp only [List.replicate_succ, List.replicate_zero, List.set_cons_zero, List.set_cons_succ, List.length_nil, List.length_cons, Nat.zero_add, Nat.reduceAdd, List.nil_append, List.cons_append]
            refine go_aload e0_315 rfl rfl ?_
            refine go_iconst e0_317 (x := 2) rfl ?_
            refine go_iaload e0_318 rfl (k := 2) (by decide) rfl ?_
            refine go_icneN e0_319 (tg := 326) (by decide) (by decide) ?_
            refine go_iconst e0_322 (x := 1) rfl ?_
            refine go_goto e0_323 (tg := 327) (by decide) ?_
            refine go_istore_8 e0_327 rfl ?_
            refine go_iconst e0_329 (x := 3) rfl ?_
            refine go_iload e0_330 rfl ?_
            refine go_icgeN e0_332 (tg := 360) (by decide) (by decide) ?_
            refine go_iload e0_335 rfl ?_
            refine go_ifeqN e0_337 (tg := 357) (by decide) (by decide) ?_
            refine go_aload e0_340 rfl rfl ?_
            refine go_iconst e0_342 (x := 3) rfl ?_
            refine go_virtual_1 e0_343 (wd 32 rfl) (wd 33 rfl) (wd 35 rfl) (wd 34 rfl) (wd 36 rfl) (wd 5 rfl) hy_6 pd_12 rfl (c_start hw (k := 3) rfl rfl (by decide) s3) rfl rfl 0 rfl (by decide) (by decide) (by decide) (by decide) ?_
            rintro _ _ ⟨rfl, rfl⟩
            try simp only [List.replicate_succ, List.replicate_zero, List.set_cons_zero, List.set_cons_succ, List.length_nil, List.length_cons, Nat.zero_add, Nat.reduceAdd, List.nil_append, List.cons_append]
            refine go_aload e0_346 rfl rfl ?_
            refine go_iconst e0_348 (x := 3) rfl ?_
            refine go_iaload e0_349 rfl (k := 3) (by decide) rfl ?_
            refine go_icneN e0_350 (tg := 357) (by decide) (by decide) ?_
            refine go_iconst e0_353 (x := 1) rfl ?_
            refine go_goto e0_354 (tg := 358) (by decide) ?_
            refine go_istore_8 e0_358 rfl ?_
            refine go_iconst e0_360 (x := 4) rfl ?_
            refine go_iload e0_361 rfl ?_
            refine go_icgeY e0_363 (tg := 391) (by decide) (by decide) ?_
            refine go_iload e0_391 rfl ?_
            refine go_zreturn e0_393 rfl (by decide) (by decide) (by decide) ?_
            exact rfl
        · intro c141
          refine go_aload e0_144 rfl rfl ?_
          refine go_iload e0_146 rfl ?_
          refine go_iconst e0_148 (x := 3) rfl ?_
          refine go_iastore e0_149 rfl (k := 3) (by decide) (Nat.le_of_ble_eq_true rfl) ?_
          simp only [List.replicate_succ, List.replicate_zero, List.set_cons_zero, List.set_cons_succ, List.length_nil, List.length_cons, Nat.zero_add, Nat.reduceAdd, List.nil_append, List.cons_append]
          refine go_iinc_6 e0_150 (z := 1) rfl ?_
          refine go_iloadN e0_153 rfl ?_
          refine go_iconst e0_154 (x := 3) rfl ?_
          refine go_icleN e0_155 (tg := 176) (by decide) (by decide) ?_
          refine go_aload e0_158 rfl rfl ?_
          refine go_iconst e0_160 (x := 3) rfl ?_
          refine go_baload e0_161 rfl (k := 3) (by decide) rfl ?_
          refine go_bipush e0_162 (x := 10) rfl ?_
          refine go_icne e0_164 (tg := 176) (by decide) ?_ ?_
          · intro c164
            refine go_iloadN e0_176 rfl ?_
            refine go_ifleN e0_177 (tg := 200) (by decide) (by decide) ?_
            refine go_aload e0_180 rfl rfl ?_
            refine go_iloadN e0_182 rfl ?_
            refine go_iconst e0_183 (x := 1) rfl ?_
            refine go_isub e0_184 ?_
            refine go_baload e0_185 rfl (k := 3) (by decide) rfl ?_
            refine go_bipush e0_186 (x := 10) rfl ?_
            refine go_iceqN e0_188 (tg := 200) (by decide) c164 ?_
            refine go_aload e0_191 rfl rfl ?_
            refine go_iload e0_193 rfl ?_
            refine go_iloadN e0_195 rfl ?_
            refine go_iastore e0_196 rfl (k := 4) (by decide) (Nat.le_of_ble_eq_true rfl) ?_
            simp only [List.replicate_succ, List.replicate_zero, List.set_cons_zero, List.set_cons_succ, List.length_nil, List.length_cons, Nat.zero_add, Nat.reduceAdd, List.nil_append, List.cons_append]
            refine go_iinc_6 e0_197 (z := 1) rfl ?_
            refine go_aload e0_200 rfl rfl ?_
            refine go_static_1 e0_202 (wd 3 rfl) (wd 4 rfl) (wd 6 rfl) (wd 5 rfl) hy_6 pd_9 rfl (c_of hw (n := 4) (xs := [x0, x1, x2, x3]) rfl rfl (by decide)) rfl 0 rfl (by decide) (by decide) (by decide) (by decide) ?_
            rintro _ _ ⟨rfl, st, c0, rfl, hc, hsl, hst, hsc⟩
            have hb0 : own_b [x0, x1, x2, x3] 0 = 1 := own_byes (rfl : ([x0, x1, x2, x3] : List Int32)[0]? = some x0) c95
            have hb1 : own_b [x0, x1, x2, x3] 1 = 1 := own_byes (rfl : ([x0, x1, x2, x3] : List Int32)[1]? = some x1) c118
            have hb2 : own_b [x0, x1, x2, x3] 2 = 1 := own_byes (rfl : ([x0, x1, x2, x3] : List Int32)[2]? = some x2) c141
            have hb3 : own_b [x0, x1, x2, x3] 3 = 0 := own_bno (rfl : ([x0, x1, x2, x3] : List Int32)[3]? = some x3) c164
            obtain rfl : c0 = 4 := by
              simp [own_c, own_last, hb0, hb1, hb2, hb3] at hc
              omega
            have s0 : st[0]? = some (N2I 0) := hst 0 0 (by decide) (by simp [own_lf, hb0, hb1, hb2, hb3])
            have s1 : st[1]? = some (N2I 1) := hst 1 1 (by decide) (by simp [own_lf, hb0, hb1, hb2, hb3])
            have s2 : st[2]? = some (N2I 2) := hst 2 2 (by decide) (by simp [own_lf, hb0, hb1, hb2, hb3])
            have s3 : st[3]? = some (N2I 3) := hst 3 3 (by decide) (by simp [own_lf, hb0, hb1, hb2, hb3])
            have s4 : st[4]? = some (N2I 4) := hsc
            try simp only [List.replicate_succ, List.replicate_zero, List.set_cons_zero, List.set_cons_succ, List.length_nil, List.length_cons, Nat.zero_add, Nat.reduceAdd, List.nil_append, List.cons_append]
            refine go_astore_7 e0_205 rfl rfl ?_
            refine go_aload e0_207 rfl rfl ?_
            refine go_virtual_0 e0_209 (wd 22 rfl) (wd 23 rfl) (wd 25 rfl) (wd 24 rfl) (wd 26 rfl) (wd 5 rfl) hy_6 pd_10 rfl (c_data hw rfl) rfl rfl 0 rfl (by decide) (by decide) (by decide) (by decide) ?_
            rintro _ _ ⟨rfl, rfl⟩
            try simp only [List.replicate_succ, List.replicate_zero, List.set_cons_zero, List.set_cons_succ, List.length_nil, List.length_cons, Nat.zero_add, Nat.reduceAdd, List.nil_append, List.cons_append]
            refine go_aload e0_212 rfl rfl ?_
            refine go_acmp e0_214 rfl rfl (same := true) rfl (tg := 219) (by decide) ?_
            show Go C 219 _ _ _ _ _
            refine go_aload e0_219 rfl rfl ?_
            refine go_virtual_0 e0_221 (wd 27 rfl) (wd 28 rfl) (wd 30 rfl) (wd 29 rfl) (wd 31 rfl) (wd 5 rfl) hy_6 pd_11 rfl (c_cnt hw rfl rfl) rfl rfl 0 rfl (by decide) (by decide) (by decide) (by decide) ?_
            rintro _ _ ⟨rfl, rfl⟩
            try simp only [List.replicate_succ, List.replicate_zero, List.set_cons_zero, List.set_cons_succ, List.length_nil, List.length_cons, Nat.zero_add, Nat.reduceAdd, List.nil_append, List.cons_append]
            refine go_iload e0_224 rfl ?_
            refine go_iconst e0_226 (x := 1) rfl ?_
            refine go_isub e0_227 ?_
            refine go_iceqY e0_228 (tg := 233) (by decide) (by rw [hsl]; decide) ?_
            refine go_iconst e0_233 (x := 1) rfl ?_
            refine go_istore_8 e0_234 rfl ?_
            refine go_iconst e0_236 (x := 0) rfl ?_
            refine go_iload e0_237 rfl ?_
            refine go_icgeN e0_239 (tg := 267) (by decide) (by decide) ?_
            refine go_iload e0_242 rfl ?_
            refine go_ifeqN e0_244 (tg := 264) (by decide) (by decide) ?_
            refine go_aload e0_247 rfl rfl ?_
            refine go_iconst e0_249 (x := 0) rfl ?_
            refine go_virtual_1 e0_250 (wd 32 rfl) (wd 33 rfl) (wd 35 rfl) (wd 34 rfl) (wd 36 rfl) (wd 5 rfl) hy_6 pd_12 rfl (c_start hw (k := 0) rfl rfl (by decide) s0) rfl rfl 0 rfl (by decide) (by decide) (by decide) (by decide) ?_
            rintro _ _ ⟨rfl, rfl⟩
            try simp only [List.replicate_succ, List.replicate_zero, List.set_cons_zero, List.set_cons_succ, List.length_nil, List.length_cons, Nat.zero_add, Nat.reduceAdd, List.nil_append, List.cons_append]
            refine go_aload e0_253 rfl rfl ?_
            refine go_iconst e0_255 (x := 0) rfl ?_
            refine go_iaload e0_256 rfl (k := 0) (by decide) rfl ?_
            refine go_icneN e0_257 (tg := 264) (by decide) (by decide) ?_
            refine go_iconst e0_260 (x := 1) rfl ?_
            refine go_goto e0_261 (tg := 265) (by decide) ?_
            refine go_istore_8 e0_265 rfl ?_
            refine go_iconst e0_267 (x := 1) rfl ?_
            refine go_iload e0_268 rfl ?_
            refine go_icgeN e0_270 (tg := 298) (by decide) (by decide) ?_
            refine go_iload e0_273 rfl ?_
            refine go_ifeqN e0_275 (tg := 295) (by decide) (by decide) ?_
            refine go_aload e0_278 rfl rfl ?_
            refine go_iconst e0_280 (x := 1) rfl ?_
            refine go_virtual_1 e0_281 (wd 32 rfl) (wd 33 rfl) (wd 35 rfl) (wd 34 rfl) (wd 36 rfl) (wd 5 rfl) hy_6 pd_12 rfl (c_start hw (k := 1) rfl rfl (by decide) s1) rfl rfl 0 rfl (by decide) (by decide) (by decide) (by decide) ?_
            rintro _ _ ⟨rfl, rfl⟩
            try simp only [List.replicate_succ, List.replicate_zero, List.set_cons_zero, List.set_cons_succ, List.length_nil, List.length_cons, Nat.zero_add, Nat.reduceAdd, List.nil_append, List.cons_append]
            refine go_aload e0_284 rfl rfl ?_
            refine go_iconst e0_286 (x := 1) rfl ?_
            refine go_iaload e0_287 rfl (k := 1) (by decide) rfl ?_
            refine go_icneN e0_288 (tg := 295) (by decide) (by decide) ?_
            refine go_iconst e0_291 (x := 1) rfl ?_
            refine go_goto e0_292 (tg := 296) (by decide) ?_
            refine go_istore_8 e0_296 rfl ?_
            refine go_iconst e0_298 (x := 2) rfl ?_
            refine go_iload e0_299 rfl ?_
            refine go_icgeN e0_301 (tg := 329) (by decide) (by decide) ?_
            refine go_iload e0_304 rfl ?_
            refine go_ifeqN e0_306 (tg := 326) (by decide) (by decide) ?_
            refine go_aload e0_309 rfl rfl ?_
            refine go_iconst e0_311 (x := 2) rfl ?_
            refine go_virtual_1 e0_312 (wd 32 rfl) (wd 33 rfl) (wd 35 rfl) (wd 34 rfl) (wd 36 rfl) (wd 5 rfl) hy_6 pd_12 rfl (c_start hw (k := 2) rfl rfl (by decide) s2) rfl rfl 0 rfl (by decide) (by decide) (by decide) (by decide) ?_
            rintro _ _ ⟨rfl, rfl⟩
            try simp only [List.replicate_succ, List.replicate_zero, List.set_cons_zero, List.set_cons_succ, List.length_nil, List.length_cons, Nat.zero_add, Nat.reduceAdd, List.nil_append, List.cons_append]
            refine go_aload e0_315 rfl rfl ?_
            refine go_iconst e0_317 (x := 2) rfl ?_
            refine go_iaload e0_318 rfl (k := 2) (by decide) rfl ?_
            refine go_icneN e0_319 (tg := 326) (by decide) (by decide) ?_
            refine go_iconst e0_322 (x := 1) rfl ?_
            refine go_goto e0_323 (tg := 327) (by decide) ?_
            refine go_istore_8 e0_327 rfl ?_
            refine go_iconst e0_329 (x := 3) rfl ?_
            refine go_iload e0_330 rfl ?_
            refine go_icgeN e0_332 (tg := 360) (by decide) (by decide) ?_
            refine go_iload e0_335 rfl ?_
            refine go_ifeqN e0_337 (tg := 357) (by decide) (by decide) ?_
            refine go_aload e0_340 rfl rfl ?_
            refine go_iconst e0_342 (x := 3) rfl ?_
            refine go_virtual_1 e0_343 (wd 32 rfl) (wd 33 rfl) (wd 35 rfl) (wd 34 rfl) (wd 36 rfl) (wd 5 rfl) hy_6 pd_12 rfl (c_start hw (k := 3) rfl rfl (by decide) s3) rfl rfl 0 rfl (by decide) (by decide) (by decide) (by decide) ?_
            rintro _ _ ⟨rfl, rfl⟩
            try simp only [List.replicate_succ, List.replicate_zero, List.set_cons_zero, List.set_cons_succ, List.length_nil, List.length_cons, Nat.zero_add, Nat.reduceAdd, List.nil_append, List.cons_append]
            refine go_aload e0_346 rfl rfl ?_
            refine go_iconst e0_348 (x := 3) rfl ?_
            refine go_iaload e0_349 rfl (k := 3) (by decide) rfl ?_
            refine go_icneN e0_350 (tg := 357) (by decide) (by decide) ?_
            refine go_iconst e0_353 (x := 1) rfl ?_
            refine go_goto e0_354 (tg := 358) (by decide) ?_
            refine go_istore_8 e0_358 rfl ?_
            refine go_iconst e0_360 (x := 4) rfl ?_
            refine go_iload e0_361 rfl ?_
            refine go_icgeN e0_363 (tg := 391) (by decide) (by decide) ?_
            refine go_iload e0_366 rfl ?_
            refine go_ifeqN e0_368 (tg := 388) (by decide) (by decide) ?_
            refine go_aload e0_371 rfl rfl ?_
            refine go_iconst e0_373 (x := 4) rfl ?_
            refine go_virtual_1 e0_374 (wd 32 rfl) (wd 33 rfl) (wd 35 rfl) (wd 34 rfl) (wd 36 rfl) (wd 5 rfl) hy_6 pd_12 rfl (c_start hw (k := 4) rfl rfl (by decide) s4) rfl rfl 0 rfl (by decide) (by decide) (by decide) (by decide) ?_
            rintro _ _ ⟨rfl, rfl⟩
            try simp only [List.replicate_succ, List.replicate_zero, List.set_cons_zero, List.set_cons_succ, List.length_nil, List.length_cons, Nat.zero_add, Nat.reduceAdd, List.nil_append, List.cons_append]
            refine go_aload e0_377 rfl rfl ?_
            refine go_iconst e0_379 (x := 4) rfl ?_
            refine go_iaload e0_380 rfl (k := 4) (by decide) rfl ?_
            refine go_icneN e0_381 (tg := 388) (by decide) (by decide) ?_
            refine go_iconst e0_384 (x := 1) rfl ?_
            refine go_goto e0_385 (tg := 389) (by decide) ?_
            refine go_istore_8 e0_389 rfl ?_
            refine go_iload e0_391 rfl ?_
            refine go_zreturn e0_393 rfl (by decide) (by decide) (by decide) ?_
            exact rfl
          · intro c164
            refine go_aload e0_167 rfl rfl ?_
            refine go_iload e0_169 rfl ?_
            refine go_iconst e0_171 (x := 4) rfl ?_
            refine go_iastore e0_172 rfl (k := 4) (by decide) (Nat.le_of_ble_eq_true rfl) ?_
            simp only [List.replicate_succ, List.replicate_zero, List.set_cons_zero, List.set_cons_succ, List.length_nil, List.length_cons, Nat.zero_add, Nat.reduceAdd, List.nil_append, List.cons_append]
            refine go_iinc_6 e0_173 (z := 1) rfl ?_
            refine go_iloadN e0_176 rfl ?_
            refine go_ifleN e0_177 (tg := 200) (by decide) (by decide) ?_
            refine go_aload e0_180 rfl rfl ?_
            refine go_iloadN e0_182 rfl ?_
            refine go_iconst e0_183 (x := 1) rfl ?_
            refine go_isub e0_184 ?_
            refine go_baload e0_185 rfl (k := 3) (by decide) rfl ?_
            refine go_bipush e0_186 (x := 10) rfl ?_
            refine go_iceqY e0_188 (tg := 200) (by decide) c164 ?_
            refine go_aload e0_200 rfl rfl ?_
            refine go_static_1 e0_202 (wd 3 rfl) (wd 4 rfl) (wd 6 rfl) (wd 5 rfl) hy_6 pd_9 rfl (c_of hw (n := 4) (xs := [x0, x1, x2, x3]) rfl rfl (by decide)) rfl 0 rfl (by decide) (by decide) (by decide) (by decide) ?_
            rintro _ _ ⟨rfl, st, c0, rfl, hc, hsl, hst, hsc⟩
            have hb0 : own_b [x0, x1, x2, x3] 0 = 1 := own_byes (rfl : ([x0, x1, x2, x3] : List Int32)[0]? = some x0) c95
            have hb1 : own_b [x0, x1, x2, x3] 1 = 1 := own_byes (rfl : ([x0, x1, x2, x3] : List Int32)[1]? = some x1) c118
            have hb2 : own_b [x0, x1, x2, x3] 2 = 1 := own_byes (rfl : ([x0, x1, x2, x3] : List Int32)[2]? = some x2) c141
            have hb3 : own_b [x0, x1, x2, x3] 3 = 1 := own_byes (rfl : ([x0, x1, x2, x3] : List Int32)[3]? = some x3) c164
            obtain rfl : c0 = 4 := by
              simp [own_c, own_last, hb0, hb1, hb2, hb3] at hc
              omega
            have s0 : st[0]? = some (N2I 0) := hst 0 0 (by decide) (by simp [own_lf, hb0, hb1, hb2, hb3])
            have s1 : st[1]? = some (N2I 1) := hst 1 1 (by decide) (by simp [own_lf, hb0, hb1, hb2, hb3])
            have s2 : st[2]? = some (N2I 2) := hst 2 2 (by decide) (by simp [own_lf, hb0, hb1, hb2, hb3])
            have s3 : st[3]? = some (N2I 3) := hst 3 3 (by decide) (by simp [own_lf, hb0, hb1, hb2, hb3])
            have s4 : st[4]? = some (N2I 4) := hsc
            try simp only [List.replicate_succ, List.replicate_zero, List.set_cons_zero, List.set_cons_succ, List.length_nil, List.length_cons, Nat.zero_add, Nat.reduceAdd, List.nil_append, List.cons_append]
            refine go_astore_7 e0_205 rfl rfl ?_
            refine go_aload e0_207 rfl rfl ?_
            refine go_virtual_0 e0_209 (wd 22 rfl) (wd 23 rfl) (wd 25 rfl) (wd 24 rfl) (wd 26 rfl) (wd 5 rfl) hy_6 pd_10 rfl (c_data hw rfl) rfl rfl 0 rfl (by decide) (by decide) (by decide) (by decide) ?_
            rintro _ _ ⟨rfl, rfl⟩
            try simp only [List.replicate_succ, List.replicate_zero, List.set_cons_zero, List.set_cons_succ, List.length_nil, List.length_cons, Nat.zero_add, Nat.reduceAdd, List.nil_append, List.cons_append]
            refine go_aload e0_212 rfl rfl ?_
            refine go_acmp e0_214 rfl rfl (same := true) rfl (tg := 219) (by decide) ?_
            show Go C 219 _ _ _ _ _
            refine go_aload e0_219 rfl rfl ?_
            refine go_virtual_0 e0_221 (wd 27 rfl) (wd 28 rfl) (wd 30 rfl) (wd 29 rfl) (wd 31 rfl) (wd 5 rfl) hy_6 pd_11 rfl (c_cnt hw rfl rfl) rfl rfl 0 rfl (by decide) (by decide) (by decide) (by decide) ?_
            rintro _ _ ⟨rfl, rfl⟩
            try simp only [List.replicate_succ, List.replicate_zero, List.set_cons_zero, List.set_cons_succ, List.length_nil, List.length_cons, Nat.zero_add, Nat.reduceAdd, List.nil_append, List.cons_append]
            refine go_iload e0_224 rfl ?_
            refine go_iconst e0_226 (x := 1) rfl ?_
            refine go_isub e0_227 ?_
            refine go_iceqY e0_228 (tg := 233) (by decide) (by rw [hsl]; decide) ?_
            refine go_iconst e0_233 (x := 1) rfl ?_
            refine go_istore_8 e0_234 rfl ?_
            refine go_iconst e0_236 (x := 0) rfl ?_
            refine go_iload e0_237 rfl ?_
            refine go_icgeN e0_239 (tg := 267) (by decide) (by decide) ?_
            refine go_iload e0_242 rfl ?_
            refine go_ifeqN e0_244 (tg := 264) (by decide) (by decide) ?_
            refine go_aload e0_247 rfl rfl ?_
            refine go_iconst e0_249 (x := 0) rfl ?_
            refine go_virtual_1 e0_250 (wd 32 rfl) (wd 33 rfl) (wd 35 rfl) (wd 34 rfl) (wd 36 rfl) (wd 5 rfl) hy_6 pd_12 rfl (c_start hw (k := 0) rfl rfl (by decide) s0) rfl rfl 0 rfl (by decide) (by decide) (by decide) (by decide) ?_
            rintro _ _ ⟨rfl, rfl⟩
            try simp only [List.replicate_succ, List.replicate_zero, List.set_cons_zero, List.set_cons_succ, List.length_nil, List.length_cons, Nat.zero_add, Nat.reduceAdd, List.nil_append, List.cons_append]
            refine go_aload e0_253 rfl rfl ?_
            refine go_iconst e0_255 (x := 0) rfl ?_
            refine go_iaload e0_256 rfl (k := 0) (by decide) rfl ?_
            refine go_icneN e0_257 (tg := 264) (by decide) (by decide) ?_
            refine go_iconst e0_260 (x := 1) rfl ?_
            refine go_goto e0_261 (tg := 265) (by decide) ?_
            refine go_istore_8 e0_265 rfl ?_
            refine go_iconst e0_267 (x := 1) rfl ?_
            refine go_iload e0_268 rfl ?_
            refine go_icgeN e0_270 (tg := 298) (by decide) (by decide) ?_
            refine go_iload e0_273 rfl ?_
            refine go_ifeqN e0_275 (tg := 295) (by decide) (by decide) ?_
            refine go_aload e0_278 rfl rfl ?_
            refine go_iconst e0_280 (x := 1) rfl ?_
            refine go_virtual_1 e0_281 (wd 32 rfl) (wd 33 rfl) (wd 35 rfl) (wd 34 rfl) (wd 36 rfl) (wd 5 rfl) hy_6 pd_12 rfl (c_start hw (k := 1) rfl rfl (by decide) s1) rfl rfl 0 rfl (by decide) (by decide) (by decide) (by decide) ?_
            rintro _ _ ⟨rfl, rfl⟩
            try simp only [List.replicate_succ, List.replicate_zero, List.set_cons_zero, List.set_cons_succ, List.length_nil, List.length_cons, Nat.zero_add, Nat.reduceAdd, List.nil_append, List.cons_append]
            refine go_aload e0_284 rfl rfl ?_
            refine go_iconst e0_286 (x := 1) rfl ?_
            refine go_iaload e0_287 rfl (k := 1) (by decide) rfl ?_
            refine go_icneN e0_288 (tg := 295) (by decide) (by decide) ?_
            refine go_iconst e0_291 (x := 1) rfl ?_
            refine go_goto e0_292 (tg := 296) (by decide) ?_
            refine go_istore_8 e0_296 rfl ?_
            refine go_iconst e0_298 (x := 2) rfl ?_
            refine go_iload e0_299 rfl ?_
            refine go_icgeN e0_301 (tg := 329) (by decide) (by decide) ?_
            refine go_iload e0_304 rfl ?_
            refine go_ifeqN e0_306 (tg := 326) (by decide) (by decide) ?_
            refine go_aload e0_309 rfl rfl ?_
            refine go_iconst e0_311 (x := 2) rfl ?_
            refine go_virtual_1 e0_312 (wd 32 rfl) (wd 33 rfl) (wd 35 rfl) (wd 34 rfl) (wd 36 rfl) (wd 5 rfl) hy_6 pd_12 rfl (c_start hw (k := 2) rfl rfl (by decide) s2) rfl rfl 0 rfl (by decide) (by decide) (by decide) (by decide) ?_
            rintro _ _ ⟨rfl, rfl⟩
            try simp only [List.replicate_succ, List.replicate_zero, List.set_cons_zero, List.set_cons_succ, List.length_nil, List.length_cons, Nat.zero_add, Nat.reduceAdd, List.nil_append, List.cons_append]
            refine go_aload e0_315 rfl rfl ?_
            refine go_iconst e0_317 (x := 2) rfl ?_
            refine go_iaload e0_318 rfl (k := 2) (by decide) rfl ?_
            refine go_icneN e0_319 (tg := 326) (by decide) (by decide) ?_
            refine go_iconst e0_322 (x := 1) rfl ?_
            refine go_goto e0_323 (tg := 327) (by decide) ?_
            refine go_istore_8 e0_327 rfl ?_
            refine go_iconst e0_329 (x := 3) rfl ?_
            refine go_iload e0_330 rfl ?_
            refine go_icgeN e0_332 (tg := 360) (by decide) (by decide) ?_
            refine go_iload e0_335 rfl ?_
            refine go_ifeqN e0_337 (tg := 357) (by decide) (by decide) ?_
            refine go_aload e0_340 rfl rfl ?_
            refine go_iconst e0_342 (x := 3) rfl ?_
            refine go_virtual_1 e0_343 (wd 32 rfl) (wd 33 rfl) (wd 35 rfl) (wd 34 rfl) (wd 36 rfl) (wd 5 rfl) hy_6 pd_12 rfl (c_start hw (k := 3) rfl rfl (by decide) s3) rfl rfl 0 rfl (by decide) (by decide) (by decide) (by decide) ?_
            rintro _ _ ⟨rfl, rfl⟩
            try simp only [List.replicate_succ, List.replicate_zero, List.set_cons_zero, List.set_cons_succ, List.length_nil, List.length_cons, Nat.zero_add, Nat.reduceAdd, List.nil_append, List.cons_append]
            refine go_aload e0_346 rfl rfl ?_
            refine go_iconst e0_348 (x := 3) rfl ?_
            refine go_iaload e0_349 rfl (k := 3) (by decide) rfl ?_
            refine go_icneN e0_350 (tg := 357) (by decide) (by decide) ?_
            refine go_iconst e0_353 (x := 1) rfl ?_
            refine go_goto e0_354 (tg := 358) (by decide) ?_
            refine go_istore_8 e0_358 rfl ?_
            refine go_iconst e0_360 (x := 4) rfl ?_
            refine go_iload e0_361 rfl ?_
            refine go_icgeN e0_363 (tg := 391) (by decide) (by decide) ?_
            refine go_iload e0_366 rfl ?_
            refine go_ifeqN e0_368 (tg := 388) (by decide) (by decide) ?_
            refine go_aload e0_371 rfl rfl ?_
            refine go_iconst e0_373 (x := 4) rfl ?_
            refine go_virtual_1 e0_374 (wd 32 rfl) (wd 33 rfl) (wd 35 rfl) (wd 34 rfl) (wd 36 rfl) (wd 5 rfl) hy_6 pd_12 rfl (c_start hw (k := 4) rfl rfl (by decide) s4) rfl rfl 0 rfl (by decide) (by decide) (by decide) (by decide) ?_
            rintro _ _ ⟨rfl, rfl⟩
            try simp only [List.replicate_succ, List.replicate_zero, List.set_cons_zero, List.set_cons_succ, List.length_nil, List.length_cons, Nat.zero_add, Nat.reduceAdd, List.nil_append, List.cons_append]
            refine go_aload e0_377 rfl rfl ?_
            refine go_iconst e0_379 (x := 4) rfl ?_
            refine go_iaload e0_380 rfl (k := 4) (by decide) rfl ?_
            refine go_icneN e0_381 (tg := 388) (by decide) (by decide) ?_
            refine go_iconst e0_384 (x := 1) rfl ?_
            refine go_goto e0_385 (tg := 389) (by decide) ?_
            refine go_istore_8 e0_389 rfl ?_
            refine go_iload e0_391 rfl ?_
            refine go_zreturn e0_393 rfl (by decide) (by decide) (by decide) ?_
            exact rfl
set_option maxRecDepth 65536 in
set_option maxHeartbeats 40000000 in
theorem comes_1 {Post : Tables → Env → Array Value → State → Outcome → State → Prop} (hpost : ∀ tb e args s v u, (limb_1_1.after args s (.returned v) u = true ∧ limb_1_2.after args s (.returned v) u = true ∧ True) → FrameEnd s (.returned v) u (Jvm.fieldLocs frame_1_writes args s ++ Jvm.arrayLocs frame_1_arrays args s ++ Jvm.staticLocs frame_1_statics s) 16 128 → Post tb e args s (.returned v) u) :
    ArmFor flags0 classFile x code maxLocals ret World_1 tables_1 room_1 Calls_1 rest_1 Pre_1 Post := by
  intro l hfl _ _ p e ha hc hk s m args below hf hA hF happ hP
  obtain ⟨hcalls, hrest, hpre⟩ := hP
  obtain ⟨-, -, -, hnamed, -, -, -, hat⟩ := (Spec.applies_iff hf).mp happ
  obtain ⟨hg, hn⟩ := and_e (Cond.before_iff.mp (show (Jvm.Cond.and given_1 narrow_1).before args s = true from hpre))
  obtain ⟨h1, h2⟩ := and_e hg
  obtain ⟨w0, w1, w2, rfl⟩ : ∃ w0 w1 w2 : Value, args = #[w0, w1, w2] := by
    have hs : args.size = 3 := by simpa [Cond.value, given_1] using h1
    obtain ⟨L⟩ := args
    match L, hs with
    | [w0, w1, w2], _ => exact ⟨w0, w1, w2, rfl⟩
  have hw := fun d (hd : d ∈ tables_1) => atoms_spec (ws := Jvm.Cond.code x code maxLocals ret :: tables_1) hat d (List.mem_cons_of_mem _ hd)
  obtain ⟨a0, b0⟩ := and_e h2
  obtain ⟨i0, e0⟩ := is_v a0
  obtain rfl : w0 = (.int i0) := Option.some.inj e0
  obtain ⟨a1, b1⟩ := and_e b0
  obtain ⟨i1, e1⟩ := is_v a1
  obtain rfl : w1 = (.int i1) := Option.some.inj e1
  obtain ⟨i2, e2⟩ := is_v b1
  obtain rfl : w2 = (.int i2) := Option.some.inj e2
  obtain ⟨n, o, h1, h2, h3, _, L, rfl, ⟨N, v', H', rfl, -, rfl⟩, hq⟩ := law_met (l := l) (Z := s) (b := s.heap.size) hw i0 i1 i2 s.heap (Rel.nil s.heap) tables_1 p e ha hc hk s m _ below hf ((Spec.applies_iff_loose hf).mp happ).1 ⟨rfl, State.Warmed39.refl s, rfl⟩ trivial
  refine ⟨n, _, h1, h2, h3, hpost _ _ _ _ _ _ ⟨Cond.after_iff.mpr rfl, Cond.after_iff.mpr (eq_i res_at (Term.int_eval (1)) rfl), trivial⟩ ⟨hq.1, hq.2.1, (hq.2.2.sift fun y hy => Or.inr (N y hy)).mono (by decide) (by decide)⟩⟩
theorem main_1_1 : Claimed_1_1 := comes_1 fun _ _ _ _ _ _ h hF => ⟨h.1, hF⟩
theorem main_1_2 : Claimed_1_2 := comes_1 fun _ _ _ _ _ _ h hF => ⟨h.2.1, hF⟩
end Jvm.Pilot.@@N@@
namespace Jvm.Pilot.@@N@@
open Jvm Jvm.ClassFile Sem Op Lib Jvm.Free Jvm.Stand Jvm.Pilot.@@N@@.Jvm.D
/-! MADE BY PROGRAM (witnessworld.py) out of the Statement's table words and the real class files: 9 classes; the members and pool entries that the words name. The judged class is class 1, her method 2. -/
namespace start1
open Jvm.ClassFile
def u (s : String) : CpInfo := .utf8 (stringToUtf16 s)
/-- a pool by its gaps: so many unusable entries, then the entry; so many at the end -/
def gap : Nat → List CpInfo → List CpInfo
  | 0, r => r
  | n + 1, r => .unusable :: gap n r
def poolList (es : List (Nat × CpInfo)) (last : Nat) : List CpInfo := es.foldr (fun e r => gap e.1 (e.2 :: r)) (gap last [])
def pool (es : List (Nat × CpInfo)) (last : Nat) : Array CpInfo := ⟨poolList es last⟩
def fileOf (pool : Array CpInfo) (this : Nat) (attrs : Array Attribute := #[]) (ms : Array MethodInfo := #[]) (fl : Nat := 33) (sup : Nat := 0) (ifs : Array Nat := #[]) (fds : Array FieldInfo := #[]) : ClassFile where
  minorVersion := 0
  majorVersion := 65
  constantPool := pool
  accessFlags := fl
  thisClass := this
  superClass := sup
  interfaces := ifs
  fields := fds
  methods := ms
  attributes := attrs
def plain (name : String) (sup : Option ClassId) : Class where
  name := name
  kind := .ordinary
  loader := none
  accessFlags := 33
  super := sup
  interfaces := #[]
  cf := none
  fields := #[]
  methods := #[]
  instanceTypes := #[]
  staticTypes := #[]
  resolved := #[]
  callSites := []
  init := .initialized
  statics := none
  mirror := none

def pool0 : Array CpInfo := pool [(5, u "<init>"), (0, u "()V"), (1, .class_ 10), (1, u "java/lang/Object")] 113

def k0c0 : Code := { maxStack := 0, maxLocals := 1, code := object_method_1_code, exceptionTable := #[], attributes := #[] }
def k0m0 : Method := { name := "<init>", desc := "()V", sig := { parameters := [], returnType := none }, accessFlags := 1, code := some k0c0 }
/-- java/lang/Object -/
def k0 : Class := { plain "java/lang/Object" none with
  accessFlags := 33
  interfaces := #[]
  cf := some (fileOf pool0 8 #[] #[{ accessFlags := 1, nameIndex := 5, descriptorIndex := 6, attributes := #[] }] 33 0 #[] #[])
  fields := #[]
  methods := #[k0m0]
  instanceTypes := #[]
  staticTypes := #[]
  resolved := Array.replicate 124 none
  statics := none }

def pool1 : Array CpInfo := pool [(2, .class_ 4), (1, u "java/lang/Object"), (0, u "<init>"), (0, u "()V"), (0, .integer 2147483647), (0, .methodref 9 10), (0, .class_ 11), (0, .nameAndType 12 13), (0, u "com/example/deltaweave/deltaweave/delta/LinesOfPinLaw"), (0, u "pick"), (0, u "(III)B"), (0, .methodref 15 16), (0, .class_ 17), (0, .nameAndType 18 19), (0, u "com/example/deltaweave/deltaweave/delta/Lines"), (0, u "of"), (0, u "([B)Lcom/example/deltaweave/deltaweave/delta/Lines;"), (0, .methodref 15 21), (0, .nameAndType 22 23), (0, u "data"), (0, u "()[B"), (0, .methodref 15 25), (0, .nameAndType 26 27), (0, u "count"), (0, u "()I"), (0, .methodref 15 29), (0, .nameAndType 30 31), (0, u "start"), (0, u "(I)I"), (3, u "law"), (0, u "(III)Z")] 6

def k1m0 : Method := { name := "<init>", desc := "()V", sig := { parameters := [], returnType := none }, accessFlags := 1, code := none }
def k1c1 : Code := { maxStack := 3, maxLocals := 3, code := method_2_code, exceptionTable := #[], attributes := #[] }
def k1m1 : Method := { name := "pick", desc := "(III)B", sig := { parameters := [.int, .int, .int], returnType := some .byte }, accessFlags := 10, code := some k1c1 }
def k1c2 : Code := { maxStack := 5, maxLocals := 9, code := code, exceptionTable := #[], attributes := #[] }
def k1m2 : Method := { name := "law", desc := "(III)Z", sig := { parameters := [.int, .int, .int], returnType := some .boolean }, accessFlags := 9, code := some k1c2 }
/-- com/example/deltaweave/deltaweave/delta/LinesOfPinLaw -/
def k1 : Class := { plain "com/example/deltaweave/deltaweave/delta/LinesOfPinLaw" (some 0) with
  accessFlags := 49
  interfaces := #[]
  cf := some (fileOf pool1 9 #[] #[{ accessFlags := 1, nameIndex := 5, descriptorIndex := 6, attributes := #[] }, { accessFlags := 10, nameIndex := 12, descriptorIndex := 13, attributes := #[] }, { accessFlags := 9, nameIndex := 35, descriptorIndex := 36, attributes := #[] }] 49 2 #[] #[])
  fields := #[]
  methods := #[k1m0, k1m1, k1m2]
  instanceTypes := #[]
  staticTypes := #[]
  resolved := Array.replicate 43 none
  statics := none }

def pool2 : Array CpInfo := pool [(1, .methodref 2 3), (0, .class_ 4), (0, .nameAndType 5 6), (0, u "java/lang/Object"), (0, u "<init>"), (0, u "()V"), (0, .fieldref 8 9), (0, .class_ 10), (0, .nameAndType 11 12), (0, u "com/example/deltaweave/deltaweave/delta/Lines"), (0, u "data"), (0, u "[B"), (0, .fieldref 8 14), (0, .nameAndType 15 16), (0, u "starts"), (0, u "[I"), (0, .methodref 8 18), (0, .nameAndType 19 20), (0, u "count"), (0, u "([BII)I"), (0, .methodref 8 22), (0, .nameAndType 5 23), (0, u "([B[I)V"), (6, u "LINE_FEED"), (0, u "B"), (4, u "of"), (0, u "([B)Lcom/example/deltaweave/deltaweave/delta/Lines;"), (3, u "()[B"), (0, u "()I"), (0, u "start"), (0, u "(I)I")] 5

def k2c0 : Code := { maxStack := 2, maxLocals := 3, code := prog_9_method_1_code, exceptionTable := #[], attributes := #[] }
def k2m0 : Method := { name := "<init>", desc := "([B[I)V", sig := { parameters := [(.array .byte), (.array .int)], returnType := none }, accessFlags := 2, code := some k2c0 }
def k2c1 : Code := { maxStack := 4, maxLocals := 5, code := prog_9_method_2_code, exceptionTable := #[], attributes := #[] }
def k2m1 : Method := { name := "of", desc := "([B)Lcom/example/deltaweave/deltaweave/delta/Lines;", sig := { parameters := [(.array .byte)], returnType := some (.object "com/example/deltaweave/deltaweave/delta/Lines") }, accessFlags := 9, code := some k2c1 }
def k2c2 : Code := { maxStack := 3, maxLocals := 5, code := prog_9_method_3_code, exceptionTable := #[], attributes := #[] }
def k2m2 : Method := { name := "count", desc := "([BII)I", sig := { parameters := [(.array .byte), .int, .int], returnType := some .int }, accessFlags := 9, code := some k2c2 }
def k2c3 : Code := { maxStack := 1, maxLocals := 1, code := prog_9_method_4_code, exceptionTable := #[], attributes := #[] }
def k2m3 : Method := { name := "data", desc := "()[B", sig := { parameters := [], returnType := some (.array .byte) }, accessFlags := 1, code := some k2c3 }
def k2c4 : Code := { maxStack := 2, maxLocals := 1, code := prog_9_method_5_code, exceptionTable := #[], attributes := #[] }
def k2m4 : Method := { name := "count", desc := "()I", sig := { parameters := [], returnType := some .int }, accessFlags := 1, code := some k2c4 }
def k2c5 : Code := { maxStack := 2, maxLocals := 2, code := prog_9_method_6_code, exceptionTable := #[], attributes := #[] }
def k2m5 : Method := { name := "start", desc := "(I)I", sig := { parameters := [.int], returnType := some .int }, accessFlags := 1, code := some k2c5 }
/-- com/example/deltaweave/deltaweave/delta/Lines -/
def k2 : Class := { plain "com/example/deltaweave/deltaweave/delta/Lines" (some 0) with
  accessFlags := 49
  interfaces := #[]
  cf := some (fileOf pool2 8 #[] #[{ accessFlags := 2, nameIndex := 5, descriptorIndex := 23, attributes := #[] }, { accessFlags := 9, nameIndex := 36, descriptorIndex := 37, attributes := #[] }, { accessFlags := 9, nameIndex := 19, descriptorIndex := 20, attributes := #[] }, { accessFlags := 1, nameIndex := 11, descriptorIndex := 41, attributes := #[] }, { accessFlags := 1, nameIndex := 19, descriptorIndex := 42, attributes := #[] }, { accessFlags := 1, nameIndex := 43, descriptorIndex := 44, attributes := #[] }] 49 2 #[] #[{ accessFlags := 26, nameIndex := 30, descriptorIndex := 31, attributes := #[] }, { accessFlags := 18, nameIndex := 11, descriptorIndex := 12, attributes := #[] }, { accessFlags := 18, nameIndex := 15, descriptorIndex := 16, attributes := #[] }])
  fields := #[{ name := "LINE_FEED", type := .byte, accessFlags := 26, slot := 0, constantValue := 0 }, { name := "data", type := (.array .byte), accessFlags := 18, slot := 0, constantValue := 0 }, { name := "starts", type := (.array .int), accessFlags := 18, slot := 1, constantValue := 0 }]
  methods := #[k2m0, k2m1, k2m2, k2m3, k2m4, k2m5]
  instanceTypes := #[(.array .byte), (.array .int)]
  staticTypes := #[.byte]
  resolved := Array.replicate 50 none
  statics := none }

def pool3 : Array CpInfo := pool [(1, u "java/lang/Cloneable"), (0, .class_ 1), (0, u "java/lang/Object"), (0, .class_ 3)] 3

/-- java/lang/Cloneable -/
def k3 : Class := { plain "java/lang/Cloneable" (some 0) with
  accessFlags := 1537
  interfaces := #[]
  cf := some (fileOf pool3 2 #[] #[] 1537 4 #[] #[])
  fields := #[]
  methods := #[]
  instanceTypes := #[]
  staticTypes := #[]
  resolved := Array.replicate 8 none
  statics := none }

def pool4 : Array CpInfo := pool [(1, u "java/io/Serializable"), (0, .class_ 1), (0, u "java/lang/Object"), (0, .class_ 3)] 3

/-- java/io/Serializable -/
def k4 : Class := { plain "java/io/Serializable" (some 0) with
  accessFlags := 1537
  interfaces := #[]
  cf := some (fileOf pool4 2 #[] #[] 1537 4 #[] #[])
  fields := #[]
  methods := #[]
  instanceTypes := #[]
  staticTypes := #[]
  resolved := Array.replicate 8 none
  statics := none }

/-- the primitive byte -/
def k5 : Class := { plain "byte" none with kind := .primitive 'B', accessFlags := 0x411 }
/-- [B -/
def k6 : Class := { plain "[B" (some 0) with kind := .array 5 .byte, interfaces := #[3, 4], accessFlags := 1041 }

/-- the primitive int -/
def k7 : Class := { plain "int" none with kind := .primitive 'I', accessFlags := 0x411 }
/-- [I -/
def k8 : Class := { plain "[I" (some 0) with kind := .array 7 .int, interfaces := #[3, 4], accessFlags := 1041 }

def heap : Heap := #[]
def classes : Array Class := #[k0, k1, k2, k3, k4, k5, k6, k7, k8]
def interned : List (Array UInt16 × Addr) := []
def slotsUsed : Nat := 0
def theMethod : MethodId := ⟨1, 2⟩
def args0 : Array Value := #[.int 5, .int 2, .int 9]
def aboutOver (below : List Frame) : State where
  vm := { classes := classes, interned := interned.toArray }
  heap := heap
  slotsUsed := slotsUsed
  threads := #[{ frames := .invoking theMethod args0 :: below }]
def below0 : List Frame := [.native { method := ⟨0, 0⟩, args := #[] }]
def about1 : State := aboutOver below0
def p0 : Program := .bare "" "" ""
def e0 : Env := launch0.env 0 0 0
theorem w_frames : about1.frames = Frame.invoking theMethod args0 :: below0 := rfl
set_option maxRecDepth 65536 in
theorem w_args : argsFit about1.vm theMethod args0 = true := by decide +kernel
set_option maxRecDepth 65536 in
theorem w_heap : heapFits about1 = true := by decide +kernel
set_option maxRecDepth 65536 in
theorem w_runnable : about1.curStatus? = some .runnable := by decide +kernel
set_option maxRecDepth 65536 in
theorem w_alone : about1.alone = true := by decide +kernel
set_option maxRecDepth 65536 in
theorem w_named : about1.methodNamed? x = some theMethod := by decide +kernel
set_option maxRecDepth 65536 in
theorem w_hears : about1.hears theMethod below0 = true := by decide +kernel
set_option maxRecDepth 65536 in
theorem w_ripe : about1.ripe theMethod args0 below0 = true := by decide +kernel
theorem w_running : about1.status = .running := rfl
set_option maxRecDepth 65536 in
theorem w_room : about1.hasRoom e0.platform room_1 = true :=
  launch0.hasRoom_least _ room_1 (by decide +kernel) (by decide +kernel) (by decide +kernel) (by decide +kernel) (by decide +kernel) (by decide +kernel)
theorem allAtoms_all (ts : List Jvm.Cond) (a : Array Jvm.Value) (st : Jvm.State) : (allAtoms ts).before a st = ts.all (fun c => c.before a st) := by
  induction ts with
  | nil => rfl
  | cons c t ih =>
    show (Jvm.Cond.and c (allAtoms t)).before a st = _
    rw [Jvm.Cond.before_and, ih, List.all_cons]
def words1 : List Jvm.Cond := Jvm.Cond.code x code maxLocals ret :: tables_1
/-- a 'code' word, met by the world's own term for the bytes: nothing is compared byte by byte -/
theorem code_word {y : MethodName} {bytes : ByteArray} {mx : Nat} {rt : Option FieldType} {a : Array Value} {s : State} {m : MethodId} {meth : Method} {c : Code} (h1 : s.methodNamed? y = some m) (h2 : s.vm.method? m = some meth) (h3 : meth.code = some c) (h4 : c.code = bytes)
    (h5 : (c.maxLocals == mx && c.exceptionTable.isEmpty && decide (c.maxStack ≤ mostOperands) && decide (meth.sig.returnType = rt) && !meth.locks && decide (parseMethodDescriptor y.desc = some meth.sig)) = true) : (Jvm.Cond.code y bytes mx rt).before a s = true := by
  simp only [Bool.and_eq_true, beq_iff_eq, Bool.not_eq_true', decide_eq_true_eq] at h5
  obtain ⟨⟨⟨⟨⟨g1, g2⟩, g3⟩, g4⟩, g5⟩, g6⟩ := h5
  simp [Cond.before, Cond.holds, Cond.value, h1, h2, h3, h4, g1, g2, g3, g4, g5, g6]
def isCode : Jvm.Cond → Bool
  | .code _ _ _ _ => true
  | _ => false
theorem all_split {L : List Jvm.Cond} {P : Jvm.Cond → Bool} (h1 : L.all (fun c => isCode c || P c) = true) (h2 : ∀ c ∈ L.filter isCode, P c = true) : L.all P = true := by
  refine List.all_eq_true.mpr fun c hc => ?_
  have h := List.all_eq_true.mp h1 c hc
  rcases Bool.eq_false_or_eq_true (isCode c) with hi | hi
  · exact h2 c (List.mem_filter.mpr ⟨hc, hi⟩)
  · simpa [hi] using h
set_option maxRecDepth 65536 in
theorem w_c0 : (Jvm.Cond.code x code maxLocals ret).before args0 about1 = true := code_word (m := ⟨1, 2⟩) (meth := k1m2) (c := k1c2) (by decide +kernel) rfl rfl rfl (by decide +kernel)
set_option maxRecDepth 65536 in
theorem w_c1 : (Jvm.Cond.code ({ cls := "com/example/deltaweave/deltaweave/delta/Lines", name := "of", desc := "([B)Lcom/example/deltaweave/deltaweave/delta/Lines;" } : Jvm.MethodName) prog_9_method_2_code (5 : Nat) (Option.some (Jvm.ClassFile.FieldType.object "com/example/deltaweave/deltaweave/delta/Lines"))).before args0 about1 = true := code_word (m := ⟨2, 1⟩) (meth := k2m1) (c := k2c1) (by decide +kernel) rfl rfl rfl (by decide +kernel)
set_option maxRecDepth 65536 in
theorem w_c2 : (Jvm.Cond.code ({ cls := "com/example/deltaweave/deltaweave/delta/Lines", name := "count", desc := "([BII)I" } : Jvm.MethodName) prog_9_method_3_code (5 : Nat) (Option.some Jvm.ClassFile.FieldType.int)).before args0 about1 = true := code_word (m := ⟨2, 2⟩) (meth := k2m2) (c := k2c2) (by decide +kernel) rfl rfl rfl (by decide +kernel)
set_option maxRecDepth 65536 in
theorem w_c3 : (Jvm.Cond.code ({ cls := "com/example/deltaweave/deltaweave/delta/Lines", name := "<init>", desc := "([B[I)V" } : Jvm.MethodName) prog_9_method_1_code (3 : Nat) (Option.none : Option Jvm.ClassFile.FieldType)).before args0 about1 = true := code_word (m := ⟨2, 0⟩) (meth := k2m0) (c := k2c0) (by decide +kernel) rfl rfl rfl (by decide +kernel)
set_option maxRecDepth 65536 in
theorem w_c4 : (Jvm.Cond.code ({ cls := "java/lang/Object", name := "<init>", desc := "()V" } : Jvm.MethodName) object_method_1_code (1 : Nat) (Option.none : Option Jvm.ClassFile.FieldType)).before args0 about1 = true := code_word (m := ⟨0, 0⟩) (meth := k0m0) (c := k0c0) (by decide +kernel) rfl rfl rfl (by decide +kernel)
set_option maxRecDepth 65536 in
theorem w_c5 : (Jvm.Cond.code ({ cls := "com/example/deltaweave/deltaweave/delta/Lines", name := "data", desc := "()[B" } : Jvm.MethodName) prog_9_method_4_code (1 : Nat) (Option.some (Jvm.ClassFile.FieldType.array Jvm.ClassFile.FieldType.byte))).before args0 about1 = true := code_word (m := ⟨2, 3⟩) (meth := k2m3) (c := k2c3) (by decide +kernel) rfl rfl rfl (by decide +kernel)
set_option maxRecDepth 65536 in
theorem w_c6 : (Jvm.Cond.code ({ cls := "com/example/deltaweave/deltaweave/delta/Lines", name := "count", desc := "()I" } : Jvm.MethodName) prog_9_method_5_code (1 : Nat) (Option.some Jvm.ClassFile.FieldType.int)).before args0 about1 = true := code_word (m := ⟨2, 4⟩) (meth := k2m4) (c := k2c4) (by decide +kernel) rfl rfl rfl (by decide +kernel)
set_option maxRecDepth 65536 in
theorem w_c7 : (Jvm.Cond.code ({ cls := "com/example/deltaweave/deltaweave/delta/Lines", name := "start", desc := "(I)I" } : Jvm.MethodName) prog_9_method_6_code (2 : Nat) (Option.some Jvm.ClassFile.FieldType.int)).before args0 about1 = true := code_word (m := ⟨2, 5⟩) (meth := k2m5) (c := k2c5) (by decide +kernel) rfl rfl rfl (by decide +kernel)
set_option maxRecDepth 65536 in
theorem w_c8 : (Jvm.Cond.code ({ cls := "com/example/deltaweave/deltaweave/delta/LinesOfPinLaw", name := "pick", desc := "(III)B" } : Jvm.MethodName) method_2_code (3 : Nat) (Option.some Jvm.ClassFile.FieldType.byte)).before args0 about1 = true := code_word (m := ⟨1, 1⟩) (meth := k1m1) (c := k1c1) (by decide +kernel) rfl rfl rfl (by decide +kernel)
def codes1 : List Jvm.Cond := [Jvm.Cond.code x code maxLocals ret, Jvm.Cond.code ({ cls := "com/example/deltaweave/deltaweave/delta/Lines", name := "of", desc := "([B)Lcom/example/deltaweave/deltaweave/delta/Lines;" } : Jvm.MethodName) prog_9_method_2_code (5 : Nat) (Option.some (Jvm.ClassFile.FieldType.object "com/example/deltaweave/deltaweave/delta/Lines")), Jvm.Cond.code ({ cls := "com/example/deltaweave/deltaweave/delta/Lines", name := "count", desc := "([BII)I" } : Jvm.MethodName) prog_9_method_3_code (5 : Nat) (Option.some Jvm.ClassFile.FieldType.int), Jvm.Cond.code ({ cls := "com/example/deltaweave/deltaweave/delta/Lines", name := "<init>", desc := "([B[I)V" } : Jvm.MethodName) prog_9_method_1_code (3 : Nat) (Option.none : Option Jvm.ClassFile.FieldType), Jvm.Cond.code ({ cls := "java/lang/Object", name := "<init>", desc := "()V" } : Jvm.MethodName) object_method_1_code (1 : Nat) (Option.none : Option Jvm.ClassFile.FieldType), Jvm.Cond.code ({ cls := "com/example/deltaweave/deltaweave/delta/Lines", name := "data", desc := "()[B" } : Jvm.MethodName) prog_9_method_4_code (1 : Nat) (Option.some (Jvm.ClassFile.FieldType.array Jvm.ClassFile.FieldType.byte)), Jvm.Cond.code ({ cls := "com/example/deltaweave/deltaweave/delta/Lines", name := "count", desc := "()I" } : Jvm.MethodName) prog_9_method_5_code (1 : Nat) (Option.some Jvm.ClassFile.FieldType.int), Jvm.Cond.code ({ cls := "com/example/deltaweave/deltaweave/delta/Lines", name := "start", desc := "(I)I" } : Jvm.MethodName) prog_9_method_6_code (2 : Nat) (Option.some Jvm.ClassFile.FieldType.int), Jvm.Cond.code ({ cls := "com/example/deltaweave/deltaweave/delta/LinesOfPinLaw", name := "pick", desc := "(III)B" } : Jvm.MethodName) method_2_code (3 : Nat) (Option.some Jvm.ClassFile.FieldType.byte)]
set_option maxRecDepth 65536 in
theorem codes_eq : words1.filter isCode = codes1 := rfl
theorem w_codes : ∀ c ∈ words1.filter isCode, c.before args0 about1 = true := by
  rw [codes_eq]
  intro c hc
  simp only [codes1, List.mem_cons, List.not_mem_nil, or_false] at hc
  rcases hc with rfl | rfl | rfl | rfl | rfl | rfl | rfl | rfl | rfl
  · exact w_c0
  · exact w_c1
  · exact w_c2
  · exact w_c3
  · exact w_c4
  · exact w_c5
  · exact w_c6
  · exact w_c7
  · exact w_c8
set_option maxRecDepth 65536 in
theorem w_t1 : (words1.take 24).all (fun c => isCode c || c.before args0 about1) = true := by decide +kernel
set_option maxRecDepth 65536 in
theorem w_t2 : (words1.drop 24).all (fun c => isCode c || c.before args0 about1) = true := by decide +kernel
theorem w_tables : (allAtoms (Jvm.Cond.code x code maxLocals ret :: tables_1)).before args0 about1 = true := by
  rw [allAtoms_all]
  show words1.all (fun c => c.before args0 about1) = true
  refine all_split ?_ w_codes
  rw [← List.take_append_drop 24 words1, List.all_append, w_t1, w_t2]
  rfl
set_option maxRecDepth 65536 in
theorem w_case : (Jvm.Cond.and given_1 narrow_1).before args0 about1 = true := by decide +kernel
theorem w_applies : (headSpec (Jvm.Cond.code x code maxLocals ret :: tables_1) room_1).applies x e0.platform about1 = true :=
  (Spec.applies_iff w_frames).mpr ⟨w_running, w_runnable, w_alone, w_named, w_hears, w_ripe, w_room, w_tables⟩
theorem atStart : AtStart classFile x code maxLocals ret World_1 tables_1 room_1 Calls_1 rest_1 Pre_1 launch0 p0 e0 about1 theMethod args0 below0 :=
  ⟨lists_1, trivial, launch0.admits_env _ _ _, launch0.least_env, fairChoices_fair.cas, fairChoices_fair.clock, w_frames, w_args, w_heap, w_applies, trivial, trivial, w_case⟩
end start1
theorem witness_1 : WitnessClaimed_1 := ⟨start1.p0, start1.e0, start1.about1, start1.theMethod, start1.args0, start1.below0, start1.atStart⟩
end Jvm.Pilot.@@N@@
