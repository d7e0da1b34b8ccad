import JvmDerived
import JvmDerived.Pilot.@@N@@Statement
import JvmDerived.Pilot.@@N@@Code
set_option linter.unusedVariables false
set_option linter.unusedSimpArgs false
namespace Jvm.GoKit
open Sem ClassFile Op Lib Jvm.Stand Jvm.Free Jvm.LawKit Jvm.RoadKit
/-! The walk as a backward predicate over a small abstract machine: refs count the cells made since the law began. -/
abbrev GCell := (String × List (String × String × Value)) ⊕ (FieldType × List Value)
abbrev ob (C : String) (fs : List (String × String × Value)) : GCell := Sum.inl (C, fs)
abbrev ar (t : FieldType) (vs : List Value) : GCell := Sum.inr (t, vs)
def upV (b : Nat) : Value → Value
  | .ref k => .ref (b + k)
  | .int x => .int x
  | .long x => .long x
  | .float x => .float x
  | .double x => .double x
  | .null => .null
  | .retAddr x => .retAddr x
def upS (b : Nat) : Slot → Slot
  | .val v => .val (upV b v)
  | .unset => .unset
  | .second => .second
theorem cat_up (b : Nat) (v : Value) : (upV b v).category = v.category := by cases v <;> rfl
theorem isRef_up (b : Nat) (v : Value) : (upV b v).isRef = v.isRef := by cases v <;> rfl
def CellOk (Z : State) (a0 : Array Value) (b : Nat) (h : Heap) (a : Addr) : GCell → Prop
  | Sum.inl (C, fs) => Exa Z h a C ∧ (∀ f ∈ fs, Fld Z h a C f.1 f.2.1 (upV b f.2.2) ∧ Laid Z a0 C C f.1 f.2.1 ∧ ∃ t, parseFieldDescriptor f.2.1 = some t) ∧ (fs.map (·.1)).Nodup
  | Sum.inr (ty, vs) => ∃ c : Cell, Arr Z h a c ty ∧ c.slots = (vs.map (upV b)).toArray ∧ Exa Z h a ("[" ++ ty.toString)
def Rel (Z : State) (a0 : Array Value) (b : Nat) (H : List GCell) (h : Heap) : Prop :=
  h.size = b + H.length ∧ ∀ (i : Nat) (mc : GCell), H[i]? = some mc → CellOk Z a0 b h (b + i) mc
section Rels
variable {Z : State} {a0 : Array Value} {b : Nat} {H : List GCell} {h h' : Heap} {a a' : Addr} {sl : Nat} {v : Value} {mc : GCell}
theorem CellOk.ext (E : Ext h h') (K : CellOk Z a0 b h a mc) : CellOk Z a0 b h' a mc := by
  rcases mc with ⟨C, fs⟩ | ⟨ty, vs⟩
  · obtain ⟨k1, k2, k3⟩ := K
    exact ⟨k1.ext E, fun f hf => ⟨(k2 f hf).1.ext E, (k2 f hf).2⟩, k3⟩
  · obtain ⟨c, A, e, e2⟩ := K
    exact ⟨c, A.ext E, e, e2.ext E⟩
theorem CellOk.other (W : Wr h h' a sl v) (ne : a' ≠ a) (K : CellOk Z a0 b h a' mc) : CellOk Z a0 b h' a' mc := by
  rcases mc with ⟨C, fs⟩ | ⟨ty, vs⟩
  · obtain ⟨k1, k2, k3⟩ := K
    exact ⟨k1.wr W, fun f hf => ⟨(k2 f hf).1.other W (Or.inl ne), (k2 f hf).2⟩, k3⟩
  · obtain ⟨c, A, e, e2⟩ := K
    exact ⟨c, A.other W ne, e, e2.wr W⟩
theorem Rel.nil (h : Heap) : Rel Z a0 h.size [] h := ⟨rfl, fun (i : Nat) mc q => by simp at q⟩
theorem Rel.push (RR : Rel Z a0 b H h) (E : Ext h h') (hs : h'.size = h.size + 1) (K : CellOk Z a0 b h' (b + H.length) mc) : Rel Z a0 b (H ++ [mc]) h' := by
  refine ⟨by rw [hs, RR.1]; simp; omega, fun (i : Nat) mc' q => ?_⟩
  rw [List.getElem?_append] at q
  split at q
  · exact (RR.2 i mc' q).ext E
  · rename_i hi
    have e : i = H.length := by
      by_cases e : i - H.length = 0
      · omega
      · rw [List.getElem?_eq_none (by simp; omega)] at q; cases q
    subst e
    simp at q
    exact q ▸ K
theorem Rel.wr (RR : Rel Z a0 b H h) {i : Nat} (W : Wr h h' (b + i) sl v) (K : CellOk Z a0 b h' (b + i) mc) : Rel Z a0 b (H.set i mc) h' := by
  refine ⟨by rw [W.size, RR.1]; simp, fun (j : Nat) mc' q => ?_⟩
  rw [List.getElem?_set] at q
  split at q
  · rename_i e
    subst e
    split at q
    · cases q; exact K
    · cases q
  · rename_i e
    exact (RR.2 j mc' q).other W (fun z => e (Nat.add_left_cancel z).symm)
theorem mem_setF {n d : String} {o : Value} : ∀ (fs : List (String × String × Value)) (j : Nat), (fs.map (·.1)).Nodup → fs[j]? = some (n, d, o) → ∀ f ∈ fs.set j (n, d, v), f = (n, d, v) ∨ (f ∈ fs ∧ f.1 ≠ n)
  | [], _, _, q, _, _ => by simp at q
  | g :: gs, 0, nd, q, f, hf => by
    simp only [List.getElem?_cons_zero, Option.some.injEq] at q
    subst q
    simp only [List.map_cons, List.nodup_cons] at nd
    simp only [List.set_cons_zero, List.mem_cons] at hf
    rcases hf with rfl | hf
    · exact Or.inl rfl
    · refine Or.inr ⟨List.mem_cons_of_mem _ hf, fun e => nd.1 ?_⟩
      exact List.mem_map.mpr ⟨f, hf, e⟩
  | g :: gs, j + 1, nd, q, f, hf => by
    simp only [List.getElem?_cons_succ] at q
    simp only [List.map_cons, List.nodup_cons] at nd
    simp only [List.set_cons_succ, List.mem_cons] at hf
    rcases hf with rfl | hf
    · refine Or.inr ⟨List.mem_cons_self .., fun e => nd.1 ?_⟩
      exact List.mem_map.mpr ⟨_, List.mem_of_getElem? q, e.symm⟩
    · rcases mem_setF gs j nd.2 q f hf with e | ⟨e1, e2⟩
      · exact Or.inl e
      · exact Or.inr ⟨List.mem_cons_of_mem _ e1, e2⟩
theorem map_setF {n d : String} {o : Value} : ∀ (fs : List (String × String × Value)) (j : Nat), fs[j]? = some (n, d, o) → (fs.set j (n, d, v)).map (·.1) = fs.map (·.1)
  | [], _, q => by simp at q
  | g :: gs, 0, q => by
    simp only [List.getElem?_cons_zero, Option.some.injEq] at q
    subst q; rfl
  | g :: gs, j + 1, q => by
    simp only [List.getElem?_cons_succ] at q
    simp only [List.set_cons_succ, List.map_cons, map_setF gs j q]
theorem CellOk.fset {C n d : String} {fs : List (String × String × Value)} {j : Nat} {o : Value} (K : CellOk Z a0 b h a (ob C fs)) (q : fs[j]? = some (n, d, o)) (W : Wr h h' a (Jvm.RoadKit.slotOf Z C n d) (upV b v)) : CellOk Z a0 b h' a (ob C (fs.set j (n, d, v))) := by
  obtain ⟨k1, k2, k3⟩ := K
  have m0 := List.mem_of_getElem? q
  obtain ⟨F, L, t, ht⟩ := k2 _ m0
  refine ⟨k1.wr W, fun f hf => ?_, by rw [map_setF fs j q]; exact k3⟩
  rcases mem_setF fs j k3 q f hf with rfl | ⟨e1, e2⟩
  · exact ⟨F.same W, L, t, ht⟩
  · obtain ⟨F', L', t', ht'⟩ := k2 _ e1
    exact ⟨F'.other W (Or.inr (slot_ne L' L e2 ht' ht)), L', t', ht'⟩
end Rels
theorem ne_oa {H : List GCell} {i j : Nat} {C : String} {fs : List (String × String × Value)} {t : FieldType} {vs : List Value} (h1 : H[i]? = some (ob C fs)) (h2 : H[j]? = some (ar t vs)) : i ≠ j := fun e => by subst e; rw [h1] at h2; cases h2
theorem get_ne {H : List GCell} {i j : Nat} {m m' : GCell} (h : H[j]? = some m) (ne : i ≠ j) : (H.set i m')[j]? = some m := by rw [List.getElem?_set_ne ne]; exact h
theorem get_eq {H : List GCell} {i : Nat} {m m' : GCell} (h : H[i]? = some m) : (H.set i m')[i]? = some m' := by
  have := (List.getElem?_eq_some_iff.mp h).1
  simp [this]
theorem get_app {H H2 : List GCell} {i : Nat} {m : GCell} (h : H[i]? = some m) : (H ++ H2)[i]? = some m := by
  have := (List.getElem?_eq_some_iff.mp h).1
  rw [List.getElem?_append_left this]; exact h
theorem get_last {H : List GCell} {m : GCell} : (H ++ [m])[H.length]? = some m := by simp
theorem set_same {α : Type} {l : List α} {k : Nat} {v : α} (h : l[k]? = some v) : l.set k v = l := by
  apply List.ext_getElem?
  intro j
  rw [List.getElem?_set]
  split
  · rename_i e; subst e
    obtain ⟨h1, h2⟩ := List.getElem?_eq_some_iff.mp h
    rw [if_pos h1, h]
  · rfl
def Dc (bytes : ByteArray) (pc : Nat) (i : Instr) (n nx : Nat) : Prop := decode bytes pc = .ok (i, n) ∧ pc + n = nx
theorem wd {W : List Jvm.Cond} {d : Jvm.Cond} (k : Nat) (h : W[k]? = some d) : d ∈ W := List.mem_of_getElem? h
def QQ (Z : State) (a0 : Array Value) (b : Nat) (Post : Option Value → List GCell → Prop) (v : Option Value) (h : Heap) (LL : List Loc) : Prop :=
  Fr b LL ∧ ∃ v' H', v = Option.map (upV b) v' ∧ Rel Z a0 b H' h ∧ Post v' H'
/-- a method's contract over the abstract machine -/
def Met (l : Launch) (Z : State) (a0 : Array Value) (b : Nat) (y : MethodName) (bytes : ByteArray) (maxL : Nat) (ret : Option FieldType) (rm : Room) (as : List Value) (H : List GCell) (Post : Option Value → List GCell → Prop) : Prop :=
  ∀ h, Rel Z a0 b H h → ∀ ws, MetFree l y (head1 (Jvm.Cond.code y bytes maxL ret :: ws) rm) (fun a U => a = (as.map (upV b)).toArray ∧ Z.Warmed39 U.vm ∧ U.heap = h) (fun _ _ _ _ _ => True)
    (fun _ U o U' => ∃ v LL, o = .returned v ∧ QQ Z a0 b Post v U'.heap LL ∧ FrameEnd U o U' LL rm.cells rm.slots)
/-- where a body is walked -/
def Cx (p : Program) (l : Launch) (e : Env) (R : Room) (s : State) (m : MethodId) (args : Array Value) (below : List Frame) (meth : Method) (c : Code) (Z : State) (a0 : Array Value) (W : List Jvm.Cond) (b : Nat) (y : MethodName) (bytes : ByteArray) (nL : Nat) (ret : Option FieldType) (Post : Option Value → List GCell → Prop) : Prop :=
  p.tables.exec = Jvm.exec ∧ Z.Warmed39 s.vm ∧ s.vm.findClass y.cls = some m.cls ∧ c.code = bytes ∧ c.maxLocals = nL ∧ meth.sig.returnType = ret ∧ meth.locks = false ∧ meth.name = y.name ∧ (∀ d ∈ W, d.before a0 Z = true)
section Walk
variable {p : Program} {l : Launch} {e : Env} {R : Room} {s : State} {m : MethodId} {args : Array Value} {below : List Frame} {meth : Method} {c : Code} {Z : State} {a0 : Array Value} {W : List Jvm.Cond} {b : Nat} {y : MethodName} {bytes : ByteArray} {nL : Nat} {ret : Option FieldType} {Post : Option Value → List GCell → Prop}
theorem Cx.exec (C : Cx p l e R s m args below meth c Z a0 W b y bytes nL ret Post) : p.tables.exec = Jvm.exec := C.1
theorem Cx.warm (C : Cx p l e R s m args below meth c Z a0 W b y bytes nL ret Post) : Z.Warmed39 s.vm := C.2.1
theorem Cx.own (C : Cx p l e R s m args below meth c Z a0 W b y bytes nL ret Post) : s.vm.findClass y.cls = some m.cls := C.2.2.1
theorem Cx.bys (C : Cx p l e R s m args below meth c Z a0 W b y bytes nL ret Post) : c.code = bytes := C.2.2.2.1
theorem Cx.ml (C : Cx p l e R s m args below meth c Z a0 W b y bytes nL ret Post) : c.maxLocals = nL := C.2.2.2.2.1
theorem Cx.rets (C : Cx p l e R s m args below meth c Z a0 W b y bytes nL ret Post) : meth.sig.returnType = ret := C.2.2.2.2.2.1
theorem Cx.nolock (C : Cx p l e R s m args below meth c Z a0 W b y bytes nL ret Post) : meth.locks = false := C.2.2.2.2.2.2.1
theorem Cx.named (C : Cx p l e R s m args below meth c Z a0 W b y bytes nL ret Post) : meth.name = y.name := C.2.2.2.2.2.2.2.1
theorem Cx.hw (C : Cx p l e R s m args below meth c Z a0 W b y bytes nL ret Post) : ∀ d ∈ W, d.before a0 Z = true := C.2.2.2.2.2.2.2.2
abbrev frm (b : Nat) (m : MethodId) (pc : Nat) (L : List Slot) (S : List Value) : JFrame := mkF m pc (L.map (upS b)).toArray (S.map (upV b))
def Ends (p : Program) (e : Env) (s : State) (R : Room) (b : Nat) (Z : State) (a0 : Array Value) (Post : Option Value → List GCell → Prop) (below : List Frame) (A : State) : Prop :=
  ∃ s₂ o, Steps p.tables e below A s₂ ∧ s₂.status = .running ∧ Ended s₂ below o ∧ ∃ v LL, o = .returned v ∧ QQ Z a0 b Post v s₂.heap LL ∧ FrameEnd s o s₂ LL R.cells R.slots
/-- from here the body returns, and Post holds of what it returns and of the heap -/
def Go (C : Cx p l e R s m args below meth c Z a0 W b y bytes nL ret Post) (pc : Nat) (L : List Slot) (S : List Value) (H : List GCell) (cells slots : Nat) : Prop :=
  ∀ T locs, Stand p l e R s m args below meth c T locs cells slots → Fr b locs → Rel Z a0 b H T.heap → Ends p e s R b Z a0 Post below (T.setTop (frm b m pc L S))
variable {C : Cx p l e R s m args below meth c Z a0 W b y bytes nL ret Post} {pc nx tg : Nat} {L L' : List Slot} {S S' : List Value} {H H' : List GCell} {cells slots : Nat}
theorem Ends.back {A B : State} (st : ∀ t, Steps p.tables e below B t → Steps p.tables e below A t) (h : Ends p e s R b Z a0 Post below B) : Ends p e s R b Z a0 Post below A := by
  obtain ⟨s₂, o, hs, hr⟩ := h
  exact ⟨s₂, o, st _ hs, hr⟩
theorem Go.more {cells' slots' : Nat} (h : Go C pc L S H cells' slots') (hc : cells ≤ cells') (hs : slots ≤ slots') : Go C pc L S H cells slots :=
  fun T locs X N RR => h T locs (X.more hc hs) N RR
theorem go_pure (st : ∀ (T : State) locs cells slots, Stand p l e R s m args below meth c T locs cells slots → ∀ t, Steps p.tables e below (T.setTop (frm b m nx L' S')) t → Steps p.tables e below (T.setTop (frm b m pc L S)) t) (h : Go C nx L' S' H cells slots) : Go C pc L S H cells slots :=
  fun T locs X N RR => (h T locs X N RR).back (st T locs _ _ X)
/-- a boolean reckoned by branches: the ways come together at pc' -/
theorem go_cut {pc' : Nat} {P : Int32 → Prop} (h1 : (∀ mb, P mb → Go C pc' L (.int mb :: S) H cells slots) → Go C pc L S H cells slots) (h2 : ∀ mb, P mb → Go C pc' L (.int mb :: S) H cells slots) : Go C pc L S H cells slots := h1 h2
theorem getL {k : Nat} {o : Slot} (h : L[k]? = some o) : (L.map (upS b)).toArray[k]? = some (upS b o) := by simp [h]
theorem go_iload {k : Nat} {x : Int32} (hd : Dc bytes pc (.iload k) 2 nx) (hl : L[k]? = some (.val (.int x))) (h : Go C nx L (.int x :: S) H cells slots) : Go C pc L S H cells slots :=
  go_pure (fun T _ _ _ X t k => by obtain ⟨hd, rfl⟩ := hd; exact XS.iload X.here C.exec rfl (hb C.bys hd) (getL hl) k) h
theorem go_iloadN {k : Fin 4} {x : Int32} (hd : Dc bytes pc (.iload_n k) 1 nx) (hl : L[k.val]? = some (.val (.int x))) (h : Go C nx L (.int x :: S) H cells slots) : Go C pc L S H cells slots :=
  go_pure (fun T _ _ _ X t k => by obtain ⟨hd, rfl⟩ := hd; exact XS.iloadN X.here C.exec rfl (hb C.bys hd) (getL hl) k) h
theorem go_lload {k : Nat} {x : Int64} (hd : Dc bytes pc (.lload k) 2 nx) (hl : L[k]? = some (.val (.long x))) (h : Go C nx L (.long x :: S) H cells slots) : Go C pc L S H cells slots :=
  go_pure (fun T _ _ _ X t k => by obtain ⟨hd, rfl⟩ := hd; exact XT.lload X.here C.exec rfl (hb C.bys hd) (getL hl) k) h
theorem go_lloadN {k : Fin 4} {x : Int64} (hd : Dc bytes pc (.lload_n k) 1 nx) (hl : L[k.val]? = some (.val (.long x))) (h : Go C nx L (.long x :: S) H cells slots) : Go C pc L S H cells slots :=
  go_pure (fun T _ _ _ X t k => by obtain ⟨hd, rfl⟩ := hd; exact XT.lloadN X.here C.exec rfl (hb C.bys hd) (getL hl) k) h
theorem go_aload {k : Nat} {x : Value} (hd : Dc bytes pc (.aload k) 2 nx) (hl : L[k]? = some (.val x)) (hr : x.isRef = true) (h : Go C nx L (x :: S) H cells slots) : Go C pc L S H cells slots :=
  go_pure (fun T _ _ _ X t k => by obtain ⟨hd, rfl⟩ := hd; exact XS.aload X.here C.exec rfl (hb C.bys hd) (getL hl) ((isRef_up b x).trans hr) k) h
theorem go_aloadN {k : Fin 4} {x : Value} (hd : Dc bytes pc (.aload_n k) 1 nx) (hl : L[k.val]? = some (.val x)) (hr : x.isRef = true) (h : Go C nx L (x :: S) H cells slots) : Go C pc L S H cells slots :=
  go_pure (fun T _ _ _ X t k => by obtain ⟨hd, rfl⟩ := hd; exact XS.aloadN X.here C.exec rfl (hb C.bys hd) (getL hl) ((isRef_up b x).trans hr) k) h
theorem go_iconst {i : Int} {x : Int32} (hd : Dc bytes pc (.iconst i) 1 nx) (hv : Int32.ofInt i = x) (h : Go C nx L (.int x :: S) H cells slots) : Go C pc L S H cells slots :=
  go_pure (fun T _ _ _ X t k => by obtain ⟨hd, rfl⟩ := hd; subst hv; exact XS.iconst X.here C.exec rfl (hb C.bys hd) k) h
theorem go_bipush {i : Int} {x : Int32} (hd : Dc bytes pc (.bipush i) 2 nx) (hv : (Int8.ofInt i).toInt32 = x) (h : Go C nx L (.int x :: S) H cells slots) : Go C pc L S H cells slots :=
  go_pure (fun T _ _ _ X t k => by obtain ⟨hd, rfl⟩ := hd; subst hv; exact XS.bipush X.here C.exec rfl (hb C.bys hd) k) h
theorem go_sipush {i : Int} {x : Int32} (hd : Dc bytes pc (.sipush i) 3 nx) (hv : (Int16.ofInt i).toInt32 = x) (h : Go C nx L (.int x :: S) H cells slots) : Go C pc L S H cells slots :=
  go_pure (fun T _ _ _ X t k => by obtain ⟨hd, rfl⟩ := hd; subst hv; exact XS.sipush X.here C.exec rfl (hb C.bys hd) k) h
theorem go_lconst {i : Fin 2} {x : Int64} (hd : Dc bytes pc (.lconst i) 1 nx) (hv : Int64.ofNat i = x) (h : Go C nx L (.long x :: S) H cells slots) : Go C pc L S H cells slots :=
  go_pure (fun T _ _ _ X t k => by obtain ⟨hd, rfl⟩ := hd; subst hv; exact XT.lconst X.here C.exec rfl (hb C.bys hd) k) h
theorem go_null (hd : Dc bytes pc .aconst_null 1 nx) (h : Go C nx L (.null :: S) H cells slots) : Go C pc L S H cells slots :=
  go_pure (fun T _ _ _ X t k => by obtain ⟨hd, rfl⟩ := hd; exact XS.aconstNull X.here C.exec rfl (hb C.bys hd) k) h
theorem go_ldc {i : Nat} {x : Int32} (hd : Dc bytes pc (.ldc i) 2 nx) (w : Jvm.Cond.constant y.cls i x ∈ W) (h : Go C nx L (.int x :: S) H cells slots) : Go C pc L S H cells slots :=
  go_pure (fun T _ _ _ X t k => by obtain ⟨hd, rfl⟩ := hd; exact X.ldcInt C.exec C.own (mvT C.warm (C.hw _ w)) (g := frm b m pc L S) rfl (hb C.bys hd) _ k) h
theorem go_ldc2 {i : Nat} {x : Int64} (hd : Dc bytes pc (.ldc2_w i) 3 nx) (w : Jvm.Cond.constantLong y.cls i x ∈ W) (h : Go C nx L (.long x :: S) H cells slots) : Go C pc L S H cells slots :=
  go_pure (fun T _ _ _ X t k => by obtain ⟨hd, rfl⟩ := hd; exact X.ldc2Long C.exec C.own (mvT C.warm (C.hw _ w)) (g := frm b m pc L S) rfl (hb C.bys hd) _ k) h
theorem go_iadd {x : Int32} {z : Int32} (hd : Dc bytes pc .iadd 1 nx) (h : Go C nx L (.int (x + z) :: S) H cells slots) : Go C pc L (.int z :: .int x :: S) H cells slots :=
  go_pure (fun T _ _ _ X t k => by obtain ⟨hd, rfl⟩ := hd; exact XS.iadd X.here C.exec rfl (hb C.bys hd) rfl k) h
theorem go_ladd {x : Int64} {z : Int64} (hd : Dc bytes pc .ladd 1 nx) (h : Go C nx L (.long (x + z) :: S) H cells slots) : Go C pc L (.long z :: .long x :: S) H cells slots :=
  go_pure (fun T _ _ _ X t k => by obtain ⟨hd, rfl⟩ := hd; exact XT.ladd X.here C.exec rfl (hb C.bys hd) rfl k) h
theorem go_isub {x : Int32} {z : Int32} (hd : Dc bytes pc .isub 1 nx) (h : Go C nx L (.int (x - z) :: S) H cells slots) : Go C pc L (.int z :: .int x :: S) H cells slots :=
  go_pure (fun T _ _ _ X t k => by obtain ⟨hd, rfl⟩ := hd; exact XS.isub X.here C.exec rfl (hb C.bys hd) rfl k) h
theorem go_lsub {x : Int64} {z : Int64} (hd : Dc bytes pc .lsub 1 nx) (h : Go C nx L (.long (x - z) :: S) H cells slots) : Go C pc L (.long z :: .long x :: S) H cells slots :=
  go_pure (fun T _ _ _ X t k => by obtain ⟨hd, rfl⟩ := hd; exact XT.lsub X.here C.exec rfl (hb C.bys hd) rfl k) h
theorem go_imul {x : Int32} {z : Int32} (hd : Dc bytes pc .imul 1 nx) (h : Go C nx L (.int (x * z) :: S) H cells slots) : Go C pc L (.int z :: .int x :: S) H cells slots :=
  go_pure (fun T _ _ _ X t k => by obtain ⟨hd, rfl⟩ := hd; exact XS.imul X.here C.exec rfl (hb C.bys hd) rfl k) h
theorem go_lmul {x : Int64} {z : Int64} (hd : Dc bytes pc .lmul 1 nx) (h : Go C nx L (.long (x * z) :: S) H cells slots) : Go C pc L (.long z :: .long x :: S) H cells slots :=
  go_pure (fun T _ _ _ X t k => by obtain ⟨hd, rfl⟩ := hd; exact XT.lmul X.here C.exec rfl (hb C.bys hd) rfl k) h
theorem go_iand {x : Int32} {z : Int32} (hd : Dc bytes pc .iand 1 nx) (h : Go C nx L (.int (x &&& z) :: S) H cells slots) : Go C pc L (.int z :: .int x :: S) H cells slots :=
  go_pure (fun T _ _ _ X t k => by obtain ⟨hd, rfl⟩ := hd; exact XS.iand X.here C.exec rfl (hb C.bys hd) rfl k) h
theorem go_land {x : Int64} {z : Int64} (hd : Dc bytes pc .land 1 nx) (h : Go C nx L (.long (x &&& z) :: S) H cells slots) : Go C pc L (.long z :: .long x :: S) H cells slots :=
  go_pure (fun T _ _ _ X t k => by obtain ⟨hd, rfl⟩ := hd; exact XT.land X.here C.exec rfl (hb C.bys hd) rfl k) h
theorem go_ior {x : Int32} {z : Int32} (hd : Dc bytes pc .ior 1 nx) (h : Go C nx L (.int (x ||| z) :: S) H cells slots) : Go C pc L (.int z :: .int x :: S) H cells slots :=
  go_pure (fun T _ _ _ X t k => by obtain ⟨hd, rfl⟩ := hd; exact XT.ior X.here C.exec rfl (hb C.bys hd) rfl k) h
theorem go_lor {x : Int64} {z : Int64} (hd : Dc bytes pc .lor 1 nx) (h : Go C nx L (.long (x ||| z) :: S) H cells slots) : Go C pc L (.long z :: .long x :: S) H cells slots :=
  go_pure (fun T _ _ _ X t k => by obtain ⟨hd, rfl⟩ := hd; exact XT.lor X.here C.exec rfl (hb C.bys hd) rfl k) h
theorem go_ixor {x : Int32} {z : Int32} (hd : Dc bytes pc .ixor 1 nx) (h : Go C nx L (.int (x ^^^ z) :: S) H cells slots) : Go C pc L (.int z :: .int x :: S) H cells slots :=
  go_pure (fun T _ _ _ X t k => by obtain ⟨hd, rfl⟩ := hd; exact XT.ixor X.here C.exec rfl (hb C.bys hd) rfl k) h
theorem go_lxor {x : Int64} {z : Int64} (hd : Dc bytes pc .lxor 1 nx) (h : Go C nx L (.long (x ^^^ z) :: S) H cells slots) : Go C pc L (.long z :: .long x :: S) H cells slots :=
  go_pure (fun T _ _ _ X t k => by obtain ⟨hd, rfl⟩ := hd; exact XT.lxor X.here C.exec rfl (hb C.bys hd) rfl k) h
theorem go_ishl {x : Int32} {z : Int32} (hd : Dc bytes pc .ishl 1 nx) (h : Go C nx L (.int (x <<< (z &&& 31)) :: S) H cells slots) : Go C pc L (.int z :: .int x :: S) H cells slots :=
  go_pure (fun T _ _ _ X t k => by obtain ⟨hd, rfl⟩ := hd; exact XT.ishl X.here C.exec rfl (hb C.bys hd) rfl k) h
theorem go_ishr {x : Int32} {z : Int32} (hd : Dc bytes pc .ishr 1 nx) (h : Go C nx L (.int (x >>> (z &&& 31)) :: S) H cells slots) : Go C pc L (.int z :: .int x :: S) H cells slots :=
  go_pure (fun T _ _ _ X t k => by obtain ⟨hd, rfl⟩ := hd; exact XT.ishr X.here C.exec rfl (hb C.bys hd) rfl k) h
theorem go_iushr {x : Int32} {z : Int32} (hd : Dc bytes pc .iushr 1 nx) (h : Go C nx L (.int (XT.ushr x z) :: S) H cells slots) : Go C pc L (.int z :: .int x :: S) H cells slots :=
  go_pure (fun T _ _ _ X t k => by obtain ⟨hd, rfl⟩ := hd; exact XT.iushr X.here C.exec rfl (hb C.bys hd) rfl k) h
theorem go_lshl {x : Int64} {z : Int32} (hd : Dc bytes pc .lshl 1 nx) (h : Go C nx L (.long (x <<< (z.toInt64 &&& 63)) :: S) H cells slots) : Go C pc L (.int z :: .long x :: S) H cells slots :=
  go_pure (fun T _ _ _ X t k => by obtain ⟨hd, rfl⟩ := hd; exact XT.lshl X.here C.exec rfl (hb C.bys hd) rfl k) h
theorem go_lshr {x : Int64} {z : Int32} (hd : Dc bytes pc .lshr 1 nx) (h : Go C nx L (.long (x >>> (z.toInt64 &&& 63)) :: S) H cells slots) : Go C pc L (.int z :: .long x :: S) H cells slots :=
  go_pure (fun T _ _ _ X t k => by obtain ⟨hd, rfl⟩ := hd; exact XT.lshr X.here C.exec rfl (hb C.bys hd) rfl k) h
theorem go_lushr {x : Int64} {z : Int32} (hd : Dc bytes pc .lushr 1 nx) (h : Go C nx L (.long (XT.ushrL x z) :: S) H cells slots) : Go C pc L (.int z :: .long x :: S) H cells slots :=
  go_pure (fun T _ _ _ X t k => by obtain ⟨hd, rfl⟩ := hd; exact XT.lushr X.here C.exec rfl (hb C.bys hd) rfl k) h
theorem go_ineg {x : Int32} (hd : Dc bytes pc .ineg 1 nx) (h : Go C nx L (.int (-x) :: S) H cells slots) : Go C pc L (.int x :: S) H cells slots :=
  go_pure (fun T _ _ _ X t k => by obtain ⟨hd, rfl⟩ := hd; exact XS.ineg X.here C.exec rfl (hb C.bys hd) rfl k) h
theorem go_lneg {x : Int64} (hd : Dc bytes pc .lneg 1 nx) (h : Go C nx L (.long (-x) :: S) H cells slots) : Go C pc L (.long x :: S) H cells slots :=
  go_pure (fun T _ _ _ X t k => by obtain ⟨hd, rfl⟩ := hd; exact XT.lneg X.here C.exec rfl (hb C.bys hd) rfl k) h
theorem go_i2l {x : Int32} (hd : Dc bytes pc .i2l 1 nx) (h : Go C nx L (.long (x.toInt64) :: S) H cells slots) : Go C pc L (.int x :: S) H cells slots :=
  go_pure (fun T _ _ _ X t k => by obtain ⟨hd, rfl⟩ := hd; exact XT.i2l X.here C.exec rfl (hb C.bys hd) rfl k) h
theorem go_l2i {x : Int64} (hd : Dc bytes pc .l2i 1 nx) (h : Go C nx L (.int (x.toInt32) :: S) H cells slots) : Go C pc L (.long x :: S) H cells slots :=
  go_pure (fun T _ _ _ X t k => by obtain ⟨hd, rfl⟩ := hd; exact XT.l2i X.here C.exec rfl (hb C.bys hd) rfl k) h
theorem go_i2b {x : Int32} (hd : Dc bytes pc .i2b 1 nx) (h : Go C nx L (.int (x.toInt8.toInt32) :: S) H cells slots) : Go C pc L (.int x :: S) H cells slots :=
  go_pure (fun T _ _ _ X t k => by obtain ⟨hd, rfl⟩ := hd; exact XT.i2b X.here C.exec rfl (hb C.bys hd) rfl k) h
theorem go_i2c {x : Int32} (hd : Dc bytes pc .i2c 1 nx) (h : Go C nx L (.int (x.toUInt32.toUInt16.toUInt32.toInt32) :: S) H cells slots) : Go C pc L (.int x :: S) H cells slots :=
  go_pure (fun T _ _ _ X t k => by obtain ⟨hd, rfl⟩ := hd; exact XT.i2c X.here C.exec rfl (hb C.bys hd) rfl k) h
theorem go_i2s {x : Int32} (hd : Dc bytes pc .i2s 1 nx) (h : Go C nx L (.int (x.toInt16.toInt32) :: S) H cells slots) : Go C pc L (.int x :: S) H cells slots :=
  go_pure (fun T _ _ _ X t k => by obtain ⟨hd, rfl⟩ := hd; exact XT.i2s X.here C.exec rfl (hb C.bys hd) rfl k) h
theorem go_idiv {x z : Int32} (hd : Dc bytes pc .idiv 1 nx) (hz : z ≠ 0) (h : Go C nx L (.int (x / z) :: S) H cells slots) : Go C pc L (.int z :: .int x :: S) H cells slots :=
  go_pure (fun T _ _ _ X t k => by obtain ⟨hd, rfl⟩ := hd; exact XS.idiv X.here C.exec rfl (hb C.bys hd) rfl hz k) h
theorem go_irem {x z : Int32} (hd : Dc bytes pc .irem 1 nx) (hz : z ≠ 0) (h : Go C nx L (.int (x % z) :: S) H cells slots) : Go C pc L (.int z :: .int x :: S) H cells slots :=
  go_pure (fun T _ _ _ X t k => by obtain ⟨hd, rfl⟩ := hd; exact iremM X C.exec rfl (hb C.bys hd) rfl hz k) h
theorem go_dup {v : Value} (hd : Dc bytes pc .dup 1 nx) (hc : v.category = 1) (h : Go C nx L (v :: v :: S) H cells slots) : Go C pc L (v :: S) H cells slots :=
  go_pure (fun T _ _ _ X t k => by obtain ⟨hd, rfl⟩ := hd; exact XS.dup X.here C.exec rfl (hb C.bys hd) rfl ((cat_up b v).trans hc) k) h
theorem go_dupX1 {v w : Value} (hd : Dc bytes pc .dup_x1 1 nx) (hc : v.category = 1) (hc' : w.category = 1) (h : Go C nx L (v :: w :: v :: S) H cells slots) : Go C pc L (v :: w :: S) H cells slots :=
  go_pure (fun T _ _ _ X t k => by obtain ⟨hd, rfl⟩ := hd; exact XT.dupX1 X.here C.exec rfl (hb C.bys hd) rfl ((cat_up b v).trans hc) ((cat_up b w).trans hc') k) h
theorem go_dupX2 {v w u : Value} (hd : Dc bytes pc .dup_x2 1 nx) (hc : v.category = 1) (hc' : w.category = 1) (hc'' : u.category = 1) (h : Go C nx L (v :: w :: u :: v :: S) H cells slots) : Go C pc L (v :: w :: u :: S) H cells slots :=
  go_pure (fun T _ _ _ X t k => by
    obtain ⟨hd, rfl⟩ := hd
    have hd' := hb C.bys hd
    have e1 : (upV b v).category = 1 := (cat_up b v).trans hc
    have e2 : (upV b w).category = 1 := (cat_up b w).trans hc'
    have e3 : (upV b u).category = 1 := (cat_up b u).trans hc''
    show Steps p.tables e below (T.setTop { method := m, pc := pc, locals := (L.map (upS b)).toArray, stack := upV b v :: upV b w :: upV b u :: S.map (upV b), locked := none }) t
    jvm_step X.here [X.here.top, C.exec, hd', e1, e2, e3]
    exact k) h
theorem go_dup2 {v w : Value} (hd : Dc bytes pc .dup2 1 nx) (hc : v.category = 1) (hc' : w.category = 1) (h : Go C nx L (v :: w :: v :: w :: S) H cells slots) : Go C pc L (v :: w :: S) H cells slots :=
  go_pure (fun T _ _ _ X t k => by obtain ⟨hd, rfl⟩ := hd; exact XT.dup2 X.here C.exec rfl (hb C.bys hd) rfl ((cat_up b v).trans hc) ((cat_up b w).trans hc') k) h
theorem go_dup2L {x : Int64} (hd : Dc bytes pc .dup2 1 nx) (h : Go C nx L (.long x :: .long x :: S) H cells slots) : Go C pc L (.long x :: S) H cells slots :=
  go_pure (fun T _ _ _ X t k => by obtain ⟨hd, rfl⟩ := hd; exact XT.dup2L X.here C.exec rfl (hb C.bys hd) rfl k) h
theorem go_pop {v : Value} (hd : Dc bytes pc .pop 1 nx) (hc : v.category = 1) (h : Go C nx L S H cells slots) : Go C pc L (v :: S) H cells slots :=
  go_pure (fun T _ _ _ X t k => by obtain ⟨hd, rfl⟩ := hd; exact XT.pop X.here C.exec rfl (hb C.bys hd) rfl ((cat_up b v).trans hc) k) h
theorem go_goto {o : Int} (hd : Dc bytes pc (.goto o) 3 nx) (ht : (pc : Int) + o = (tg : Nat)) (h : Go C tg L S H cells slots) : Go C pc L S H cells slots :=
  go_pure (fun T _ _ _ X t k => XS.goto X.here C.exec rfl (pc0 := pc) (pc' := tg) rfl (hb C.bys hd.1) (by omega) (by omega) k) h
theorem go_icmp {cd : ClassFile.Cond} {o : Int} {x z : Int32} (hd : Dc bytes pc (.if_icmp cd o) 3 nx) (ht : (pc : Int) + o = (tg : Nat)) (h1 : if_icmp.holds cd x z = true → Go C tg L S H cells slots) (h2 : if_icmp.holds cd x z = false → Go C nx L S H cells slots) : Go C pc L (.int z :: .int x :: S) H cells slots := by
  cases q : if_icmp.holds cd x z
  · exact go_pure (fun T _ _ _ X t k => by obtain ⟨hd, rfl⟩ := hd; exact XS.icmpNo X.here C.exec rfl (hb C.bys hd) rfl q k) (h2 q)
  · exact go_pure (fun T _ _ _ X t k => XS.icmpYes X.here C.exec rfl (pc0 := pc) (pc' := tg) rfl (hb C.bys hd.1) rfl q (by omega) (by omega) k) (h1 q)
theorem go_if {cd : ClassFile.Cond} {o : Int} {x : Int32} (hd : Dc bytes pc (.ifCond cd o) 3 nx) (ht : (pc : Int) + o = (tg : Nat)) (h1 : if_icmp.holds cd x 0 = true → Go C tg L S H cells slots) (h2 : if_icmp.holds cd x 0 = false → Go C nx L S H cells slots) : Go C pc L (.int x :: S) H cells slots := by
  cases q : if_icmp.holds cd x 0
  · exact go_pure (fun T _ _ _ X t k => by obtain ⟨hd, rfl⟩ := hd; exact XS.ifNo X.here C.exec rfl (hb C.bys hd) rfl ((if0 _ _).trans q) k) (h2 q)
  · exact go_pure (fun T _ _ _ X t k => XS.ifYes X.here C.exec rfl (pc0 := pc) (pc' := tg) rfl (hb C.bys hd.1) rfl ((if0 _ _).trans q) (by omega) (by omega) k) (h1 q)
theorem h_eq {x z : Int32} {B : Bool} (q : if_icmp.holds .eq x z = B) : B = true ↔ x = z := by subst q; simp [if_icmp.holds]
theorem h_ne {x z : Int32} {B : Bool} (q : if_icmp.holds .ne x z = B) : B = true ↔ ¬ x = z := by subst q; simp [if_icmp.holds]
theorem h_lt {x z : Int32} {B : Bool} (q : if_icmp.holds .lt x z = B) : B = true ↔ x.toInt < z.toInt := by subst q; simp [if_icmp.holds, Int32.lt_iff_toInt_lt]
theorem h_ge {x z : Int32} {B : Bool} (q : if_icmp.holds .ge x z = B) : B = true ↔ z.toInt ≤ x.toInt := by subst q; simp [if_icmp.holds, Int32.le_iff_toInt_le]
theorem h_gt {x z : Int32} {B : Bool} (q : if_icmp.holds .gt x z = B) : B = true ↔ z.toInt < x.toInt := by subst q; simp [if_icmp.holds, Int32.lt_iff_toInt_lt]
theorem h_le {x z : Int32} {B : Bool} (q : if_icmp.holds .le x z = B) : B = true ↔ x.toInt ≤ z.toInt := by subst q; simp [if_icmp.holds, Int32.le_iff_toInt_le]
theorem go_iceq {o : Int} {x z : Int32} (hd : Dc bytes pc (.if_icmp .eq o) 3 nx) (ht : (pc : Int) + o = (tg : Nat)) (h1 : x = z → Go C tg L S H cells slots) (h2 : ¬ x = z → Go C nx L S H cells slots) : Go C pc L (.int z :: .int x :: S) H cells slots :=
  go_icmp hd ht (fun q => h1 ((h_eq q).mp rfl)) (fun q => h2 (fun r => Bool.noConfusion ((h_eq q).mpr r)))
theorem go_iceqY {o : Int} {x z : Int32} (hd : Dc bytes pc (.if_icmp .eq o) 3 nx) (ht : (pc : Int) + o = (tg : Nat)) (hc : x = z) (h : Go C tg L S H cells slots) : Go C pc L (.int z :: .int x :: S) H cells slots :=
  go_iceq hd ht (fun _ => h) (fun q => absurd hc (by first | exact q | exact not_not_intro q | omega))
theorem go_iceqN {o : Int} {x z : Int32} (hd : Dc bytes pc (.if_icmp .eq o) 3 nx) (ht : (pc : Int) + o = (tg : Nat)) (hc : ¬ x = z) (h : Go C nx L S H cells slots) : Go C pc L (.int z :: .int x :: S) H cells slots :=
  go_iceq hd ht (fun q => absurd hc (by first | exact q | exact not_not_intro q | omega)) (fun _ => h)
theorem go_ifeq {o : Int} {x : Int32} (hd : Dc bytes pc (.ifCond .eq o) 3 nx) (ht : (pc : Int) + o = (tg : Nat)) (h1 : x = 0 → Go C tg L S H cells slots) (h2 : ¬ x = 0 → Go C nx L S H cells slots) : Go C pc L (.int x :: S) H cells slots :=
  go_if hd ht (fun q => h1 ((h_eq q).mp rfl)) (fun q => h2 (fun r => Bool.noConfusion ((h_eq q).mpr r)))
theorem go_ifeqY {o : Int} {x : Int32} (hd : Dc bytes pc (.ifCond .eq o) 3 nx) (ht : (pc : Int) + o = (tg : Nat)) (hc : x = 0) (h : Go C tg L S H cells slots) : Go C pc L (.int x :: S) H cells slots :=
  go_ifeq hd ht (fun _ => h) (fun q => absurd hc (by first | exact q | exact not_not_intro q | omega))
theorem go_ifeqN {o : Int} {x : Int32} (hd : Dc bytes pc (.ifCond .eq o) 3 nx) (ht : (pc : Int) + o = (tg : Nat)) (hc : ¬ x = 0) (h : Go C nx L S H cells slots) : Go C pc L (.int x :: S) H cells slots :=
  go_ifeq hd ht (fun q => absurd hc (by first | exact q | exact not_not_intro q | omega)) (fun _ => h)
theorem go_icne {o : Int} {x z : Int32} (hd : Dc bytes pc (.if_icmp .ne o) 3 nx) (ht : (pc : Int) + o = (tg : Nat)) (h1 : ¬ x = z → Go C tg L S H cells slots) (h2 : x = z → Go C nx L S H cells slots) : Go C pc L (.int z :: .int x :: S) H cells slots :=
  go_icmp hd ht (fun q => h1 ((h_ne q).mp rfl)) (fun q => h2 (Decidable.not_not.mp fun r => Bool.noConfusion ((h_ne q).mpr r)))
theorem go_icneY {o : Int} {x z : Int32} (hd : Dc bytes pc (.if_icmp .ne o) 3 nx) (ht : (pc : Int) + o = (tg : Nat)) (hc : ¬ x = z) (h : Go C tg L S H cells slots) : Go C pc L (.int z :: .int x :: S) H cells slots :=
  go_icne hd ht (fun _ => h) (fun q => absurd hc (by first | exact q | exact not_not_intro q | omega))
theorem go_icneN {o : Int} {x z : Int32} (hd : Dc bytes pc (.if_icmp .ne o) 3 nx) (ht : (pc : Int) + o = (tg : Nat)) (hc : x = z) (h : Go C nx L S H cells slots) : Go C pc L (.int z :: .int x :: S) H cells slots :=
  go_icne hd ht (fun q => absurd hc (by first | exact q | exact not_not_intro q | omega)) (fun _ => h)
theorem go_ifne {o : Int} {x : Int32} (hd : Dc bytes pc (.ifCond .ne o) 3 nx) (ht : (pc : Int) + o = (tg : Nat)) (h1 : ¬ x = 0 → Go C tg L S H cells slots) (h2 : x = 0 → Go C nx L S H cells slots) : Go C pc L (.int x :: S) H cells slots :=
  go_if hd ht (fun q => h1 ((h_ne q).mp rfl)) (fun q => h2 (Decidable.not_not.mp fun r => Bool.noConfusion ((h_ne q).mpr r)))
theorem go_ifneY {o : Int} {x : Int32} (hd : Dc bytes pc (.ifCond .ne o) 3 nx) (ht : (pc : Int) + o = (tg : Nat)) (hc : ¬ x = 0) (h : Go C tg L S H cells slots) : Go C pc L (.int x :: S) H cells slots :=
  go_ifne hd ht (fun _ => h) (fun q => absurd hc (by first | exact q | exact not_not_intro q | omega))
theorem go_ifneN {o : Int} {x : Int32} (hd : Dc bytes pc (.ifCond .ne o) 3 nx) (ht : (pc : Int) + o = (tg : Nat)) (hc : x = 0) (h : Go C nx L S H cells slots) : Go C pc L (.int x :: S) H cells slots :=
  go_ifne hd ht (fun q => absurd hc (by first | exact q | exact not_not_intro q | omega)) (fun _ => h)
theorem go_iclt {o : Int} {x z : Int32} (hd : Dc bytes pc (.if_icmp .lt o) 3 nx) (ht : (pc : Int) + o = (tg : Nat)) (h1 : x.toInt < z.toInt → Go C tg L S H cells slots) (h2 : z.toInt ≤ x.toInt → Go C nx L S H cells slots) : Go C pc L (.int z :: .int x :: S) H cells slots :=
  go_icmp hd ht (fun q => h1 ((h_lt q).mp rfl)) (fun q => h2 ((by have := mt (h_lt q).mpr (by simp); omega)))
theorem go_icltY {o : Int} {x z : Int32} (hd : Dc bytes pc (.if_icmp .lt o) 3 nx) (ht : (pc : Int) + o = (tg : Nat)) (hc : x.toInt < z.toInt) (h : Go C tg L S H cells slots) : Go C pc L (.int z :: .int x :: S) H cells slots :=
  go_iclt hd ht (fun _ => h) (fun q => absurd hc (by first | exact q | exact not_not_intro q | omega))
theorem go_icltN {o : Int} {x z : Int32} (hd : Dc bytes pc (.if_icmp .lt o) 3 nx) (ht : (pc : Int) + o = (tg : Nat)) (hc : z.toInt ≤ x.toInt) (h : Go C nx L S H cells slots) : Go C pc L (.int z :: .int x :: S) H cells slots :=
  go_iclt hd ht (fun q => absurd hc (by first | exact q | exact not_not_intro q | omega)) (fun _ => h)
theorem go_iflt {o : Int} {x : Int32} (hd : Dc bytes pc (.ifCond .lt o) 3 nx) (ht : (pc : Int) + o = (tg : Nat)) (h1 : x.toInt < 0 → Go C tg L S H cells slots) (h2 : 0 ≤ x.toInt → Go C nx L S H cells slots) : Go C pc L (.int x :: S) H cells slots :=
  go_if hd ht (fun q => h1 ((by have := (h_lt q).mp rfl; simpa using this))) (fun q => h2 ((by have := mt (h_lt q).mpr (by simp); simpa using this)))
theorem go_ifltY {o : Int} {x : Int32} (hd : Dc bytes pc (.ifCond .lt o) 3 nx) (ht : (pc : Int) + o = (tg : Nat)) (hc : x.toInt < 0) (h : Go C tg L S H cells slots) : Go C pc L (.int x :: S) H cells slots :=
  go_iflt hd ht (fun _ => h) (fun q => absurd hc (by first | exact q | exact not_not_intro q | omega))
theorem go_ifltN {o : Int} {x : Int32} (hd : Dc bytes pc (.ifCond .lt o) 3 nx) (ht : (pc : Int) + o = (tg : Nat)) (hc : 0 ≤ x.toInt) (h : Go C nx L S H cells slots) : Go C pc L (.int x :: S) H cells slots :=
  go_iflt hd ht (fun q => absurd hc (by first | exact q | exact not_not_intro q | omega)) (fun _ => h)
theorem go_icge {o : Int} {x z : Int32} (hd : Dc bytes pc (.if_icmp .ge o) 3 nx) (ht : (pc : Int) + o = (tg : Nat)) (h1 : z.toInt ≤ x.toInt → Go C tg L S H cells slots) (h2 : x.toInt < z.toInt → Go C nx L S H cells slots) : Go C pc L (.int z :: .int x :: S) H cells slots :=
  go_icmp hd ht (fun q => h1 ((h_ge q).mp rfl)) (fun q => h2 ((by have := mt (h_ge q).mpr (by simp); omega)))
theorem go_icgeY {o : Int} {x z : Int32} (hd : Dc bytes pc (.if_icmp .ge o) 3 nx) (ht : (pc : Int) + o = (tg : Nat)) (hc : z.toInt ≤ x.toInt) (h : Go C tg L S H cells slots) : Go C pc L (.int z :: .int x :: S) H cells slots :=
  go_icge hd ht (fun _ => h) (fun q => absurd hc (by first | exact q | exact not_not_intro q | omega))
theorem go_icgeN {o : Int} {x z : Int32} (hd : Dc bytes pc (.if_icmp .ge o) 3 nx) (ht : (pc : Int) + o = (tg : Nat)) (hc : x.toInt < z.toInt) (h : Go C nx L S H cells slots) : Go C pc L (.int z :: .int x :: S) H cells slots :=
  go_icge hd ht (fun q => absurd hc (by first | exact q | exact not_not_intro q | omega)) (fun _ => h)
theorem go_ifge {o : Int} {x : Int32} (hd : Dc bytes pc (.ifCond .ge o) 3 nx) (ht : (pc : Int) + o = (tg : Nat)) (h1 : 0 ≤ x.toInt → Go C tg L S H cells slots) (h2 : x.toInt < 0 → Go C nx L S H cells slots) : Go C pc L (.int x :: S) H cells slots :=
  go_if hd ht (fun q => h1 ((by have := (h_ge q).mp rfl; simpa using this))) (fun q => h2 ((by have := mt (h_ge q).mpr (by simp); simpa using this)))
theorem go_ifgeY {o : Int} {x : Int32} (hd : Dc bytes pc (.ifCond .ge o) 3 nx) (ht : (pc : Int) + o = (tg : Nat)) (hc : 0 ≤ x.toInt) (h : Go C tg L S H cells slots) : Go C pc L (.int x :: S) H cells slots :=
  go_ifge hd ht (fun _ => h) (fun q => absurd hc (by first | exact q | exact not_not_intro q | omega))
theorem go_ifgeN {o : Int} {x : Int32} (hd : Dc bytes pc (.ifCond .ge o) 3 nx) (ht : (pc : Int) + o = (tg : Nat)) (hc : x.toInt < 0) (h : Go C nx L S H cells slots) : Go C pc L (.int x :: S) H cells slots :=
  go_ifge hd ht (fun q => absurd hc (by first | exact q | exact not_not_intro q | omega)) (fun _ => h)
theorem go_icgt {o : Int} {x z : Int32} (hd : Dc bytes pc (.if_icmp .gt o) 3 nx) (ht : (pc : Int) + o = (tg : Nat)) (h1 : z.toInt < x.toInt → Go C tg L S H cells slots) (h2 : x.toInt ≤ z.toInt → Go C nx L S H cells slots) : Go C pc L (.int z :: .int x :: S) H cells slots :=
  go_icmp hd ht (fun q => h1 ((h_gt q).mp rfl)) (fun q => h2 ((by have := mt (h_gt q).mpr (by simp); omega)))
theorem go_icgtY {o : Int} {x z : Int32} (hd : Dc bytes pc (.if_icmp .gt o) 3 nx) (ht : (pc : Int) + o = (tg : Nat)) (hc : z.toInt < x.toInt) (h : Go C tg L S H cells slots) : Go C pc L (.int z :: .int x :: S) H cells slots :=
  go_icgt hd ht (fun _ => h) (fun q => absurd hc (by first | exact q | exact not_not_intro q | omega))
theorem go_icgtN {o : Int} {x z : Int32} (hd : Dc bytes pc (.if_icmp .gt o) 3 nx) (ht : (pc : Int) + o = (tg : Nat)) (hc : x.toInt ≤ z.toInt) (h : Go C nx L S H cells slots) : Go C pc L (.int z :: .int x :: S) H cells slots :=
  go_icgt hd ht (fun q => absurd hc (by first | exact q | exact not_not_intro q | omega)) (fun _ => h)
theorem go_ifgt {o : Int} {x : Int32} (hd : Dc bytes pc (.ifCond .gt o) 3 nx) (ht : (pc : Int) + o = (tg : Nat)) (h1 : 0 < x.toInt → Go C tg L S H cells slots) (h2 : x.toInt ≤ 0 → Go C nx L S H cells slots) : Go C pc L (.int x :: S) H cells slots :=
  go_if hd ht (fun q => h1 ((by have := (h_gt q).mp rfl; simpa using this))) (fun q => h2 ((by have := mt (h_gt q).mpr (by simp); simpa using this)))
theorem go_ifgtY {o : Int} {x : Int32} (hd : Dc bytes pc (.ifCond .gt o) 3 nx) (ht : (pc : Int) + o = (tg : Nat)) (hc : 0 < x.toInt) (h : Go C tg L S H cells slots) : Go C pc L (.int x :: S) H cells slots :=
  go_ifgt hd ht (fun _ => h) (fun q => absurd hc (by first | exact q | exact not_not_intro q | omega))
theorem go_ifgtN {o : Int} {x : Int32} (hd : Dc bytes pc (.ifCond .gt o) 3 nx) (ht : (pc : Int) + o = (tg : Nat)) (hc : x.toInt ≤ 0) (h : Go C nx L S H cells slots) : Go C pc L (.int x :: S) H cells slots :=
  go_ifgt hd ht (fun q => absurd hc (by first | exact q | exact not_not_intro q | omega)) (fun _ => h)
theorem go_icle {o : Int} {x z : Int32} (hd : Dc bytes pc (.if_icmp .le o) 3 nx) (ht : (pc : Int) + o = (tg : Nat)) (h1 : x.toInt ≤ z.toInt → Go C tg L S H cells slots) (h2 : z.toInt < x.toInt → Go C nx L S H cells slots) : Go C pc L (.int z :: .int x :: S) H cells slots :=
  go_icmp hd ht (fun q => h1 ((h_le q).mp rfl)) (fun q => h2 ((by have := mt (h_le q).mpr (by simp); omega)))
theorem go_icleY {o : Int} {x z : Int32} (hd : Dc bytes pc (.if_icmp .le o) 3 nx) (ht : (pc : Int) + o = (tg : Nat)) (hc : x.toInt ≤ z.toInt) (h : Go C tg L S H cells slots) : Go C pc L (.int z :: .int x :: S) H cells slots :=
  go_icle hd ht (fun _ => h) (fun q => absurd hc (by first | exact q | exact not_not_intro q | omega))
theorem go_icleN {o : Int} {x z : Int32} (hd : Dc bytes pc (.if_icmp .le o) 3 nx) (ht : (pc : Int) + o = (tg : Nat)) (hc : z.toInt < x.toInt) (h : Go C nx L S H cells slots) : Go C pc L (.int z :: .int x :: S) H cells slots :=
  go_icle hd ht (fun q => absurd hc (by first | exact q | exact not_not_intro q | omega)) (fun _ => h)
theorem go_ifle {o : Int} {x : Int32} (hd : Dc bytes pc (.ifCond .le o) 3 nx) (ht : (pc : Int) + o = (tg : Nat)) (h1 : x.toInt ≤ 0 → Go C tg L S H cells slots) (h2 : 0 < x.toInt → Go C nx L S H cells slots) : Go C pc L (.int x :: S) H cells slots :=
  go_if hd ht (fun q => h1 ((by have := (h_le q).mp rfl; simpa using this))) (fun q => h2 ((by have := mt (h_le q).mpr (by simp); simpa using this)))
theorem go_ifleY {o : Int} {x : Int32} (hd : Dc bytes pc (.ifCond .le o) 3 nx) (ht : (pc : Int) + o = (tg : Nat)) (hc : x.toInt ≤ 0) (h : Go C tg L S H cells slots) : Go C pc L (.int x :: S) H cells slots :=
  go_ifle hd ht (fun _ => h) (fun q => absurd hc (by first | exact q | exact not_not_intro q | omega))
theorem go_ifleN {o : Int} {x : Int32} (hd : Dc bytes pc (.ifCond .le o) 3 nx) (ht : (pc : Int) + o = (tg : Nat)) (hc : 0 < x.toInt) (h : Go C nx L S H cells slots) : Go C pc L (.int x :: S) H cells slots :=
  go_ifle hd ht (fun q => absurd hc (by first | exact q | exact not_not_intro q | omega)) (fun _ => h)
theorem lcm_eq (x z : Int64) : XT.cmpL x z = 0 ↔ x = z := by
  unfold XT.cmpL
  by_cases h1 : z < x
  · rw [if_pos h1]; constructor
    · intro h; cases h
    · rintro rfl; exact (Int64.lt_irrefl h1).elim
  · rw [if_neg h1]; by_cases h2 : x = z
    · rw [if_pos h2]; simp [h2]
    · rw [if_neg h2]; constructor
      · intro h; cases h
      · intro h; exact absurd h h2
theorem lcm_lt (x z : Int64) : (XT.cmpL x z).toInt < 0 ↔ x.toInt < z.toInt := by
  unfold XT.cmpL
  by_cases h1 : z < x
  · rw [if_pos h1]; rw [Int64.lt_iff_toInt_lt] at h1; constructor
    · intro h; exact absurd h (by decide)
    · intro h; omega
  · rw [if_neg h1]; rw [Int64.lt_iff_toInt_lt] at h1; by_cases h2 : x = z
    · rw [if_pos h2]; subst h2; constructor
      · intro h; exact absurd h (by decide)
      · intro h; omega
    · rw [if_neg h2]; have : x.toInt ≠ z.toInt := fun q => h2 (Int64.toInt_inj.mp q)
      constructor
      · intro h; omega
      · intro h; decide
theorem lcm_gt (x z : Int64) : 0 < (XT.cmpL x z).toInt ↔ z.toInt < x.toInt := by
  unfold XT.cmpL
  by_cases h1 : z < x
  · rw [if_pos h1]; rw [Int64.lt_iff_toInt_lt] at h1; constructor
    · intro h; omega
    · intro h; decide
  · rw [if_neg h1]; rw [Int64.lt_iff_toInt_lt] at h1; by_cases h2 : x = z
    · rw [if_pos h2]; subst h2; constructor
      · intro h; exact absurd h (by decide)
      · intro h; omega
    · rw [if_neg h2]; constructor
      · intro h; exact absurd h (by decide)
      · intro h; omega
theorem go_lcmp {x z : Int64} (hd : Dc bytes pc .lcmp 1 nx) (h : Go C nx L (.int (XT.cmpL x z) :: S) H cells slots) : Go C pc L (.long z :: .long x :: S) H cells slots :=
  go_pure (fun T _ _ _ X t k => by obtain ⟨hd, rfl⟩ := hd; exact XT.lcmp X.here C.exec rfl (hb C.bys hd) rfl k) h
theorem go_lceq {o : Int} {x z : Int64} {p1 : Nat} (hd1 : Dc bytes pc .lcmp 1 p1) (hd : Dc bytes p1 (.ifCond .eq o) 3 nx) (ht : (p1 : Int) + o = (tg : Nat)) (h1 : x = z → Go C tg L S H cells slots) (h2 : ¬ x = z → Go C nx L S H cells slots) : Go C pc L (.long z :: .long x :: S) H cells slots :=
  go_lcmp hd1 (go_ifeq hd ht (fun q => h1 ((lcm_eq x z).mp q)) (fun q => h2 (fun r => q ((lcm_eq x z).mpr r))))
theorem go_lcne {o : Int} {x z : Int64} {p1 : Nat} (hd1 : Dc bytes pc .lcmp 1 p1) (hd : Dc bytes p1 (.ifCond .ne o) 3 nx) (ht : (p1 : Int) + o = (tg : Nat)) (h1 : ¬ x = z → Go C tg L S H cells slots) (h2 : x = z → Go C nx L S H cells slots) : Go C pc L (.long z :: .long x :: S) H cells slots :=
  go_lcmp hd1 (go_ifne hd ht (fun q => h1 (fun r => q ((lcm_eq x z).mpr r))) (fun q => h2 ((lcm_eq x z).mp q)))
theorem go_lclt {o : Int} {x z : Int64} {p1 : Nat} (hd1 : Dc bytes pc .lcmp 1 p1) (hd : Dc bytes p1 (.ifCond .lt o) 3 nx) (ht : (p1 : Int) + o = (tg : Nat)) (h1 : x.toInt < z.toInt → Go C tg L S H cells slots) (h2 : z.toInt ≤ x.toInt → Go C nx L S H cells slots) : Go C pc L (.long z :: .long x :: S) H cells slots :=
  go_lcmp hd1 (go_iflt hd ht (fun q => h1 (by have := lcm_lt x z; omega)) (fun q => h2 (by have := lcm_lt x z; omega)))
theorem go_lcge {o : Int} {x z : Int64} {p1 : Nat} (hd1 : Dc bytes pc .lcmp 1 p1) (hd : Dc bytes p1 (.ifCond .ge o) 3 nx) (ht : (p1 : Int) + o = (tg : Nat)) (h1 : z.toInt ≤ x.toInt → Go C tg L S H cells slots) (h2 : x.toInt < z.toInt → Go C nx L S H cells slots) : Go C pc L (.long z :: .long x :: S) H cells slots :=
  go_lcmp hd1 (go_ifge hd ht (fun q => h1 (by have := lcm_lt x z; omega)) (fun q => h2 (by have := lcm_lt x z; omega)))
theorem go_lcgt {o : Int} {x z : Int64} {p1 : Nat} (hd1 : Dc bytes pc .lcmp 1 p1) (hd : Dc bytes p1 (.ifCond .gt o) 3 nx) (ht : (p1 : Int) + o = (tg : Nat)) (h1 : z.toInt < x.toInt → Go C tg L S H cells slots) (h2 : x.toInt ≤ z.toInt → Go C nx L S H cells slots) : Go C pc L (.long z :: .long x :: S) H cells slots :=
  go_lcmp hd1 (go_ifgt hd ht (fun q => h1 (by have := lcm_gt x z; omega)) (fun q => h2 (by have := lcm_gt x z; omega)))
theorem go_lcle {o : Int} {x z : Int64} {p1 : Nat} (hd1 : Dc bytes pc .lcmp 1 p1) (hd : Dc bytes p1 (.ifCond .le o) 3 nx) (ht : (p1 : Int) + o = (tg : Nat)) (h1 : x.toInt ≤ z.toInt → Go C tg L S H cells slots) (h2 : z.toInt < x.toInt → Go C nx L S H cells slots) : Go C pc L (.long z :: .long x :: S) H cells slots :=
  go_lcmp hd1 (go_ifle hd ht (fun q => h1 (by have := lcm_gt x z; omega)) (fun q => h2 (by have := lcm_gt x z; omega)))
theorem go_acmp {cd : ACond} {o : Int} {v w : Value} {same : Bool} (hd : Dc bytes pc (.if_acmp cd o) 3 nx) (hv : v.isRef = true) (hw : w.isRef = true) (hs : decide (v = w) = same) (ht : (pc : Int) + o = (tg : Nat)) (h : Go C (if acV cd same = true then tg else nx) L S H cells slots) : Go C pc L (w :: v :: S) H cells slots :=
  go_pure (fun T _ _ _ X t k => by
    obtain ⟨hd, rfl⟩ := hd
    refine Jvm.RoadKit.acmp (g := frm b m pc L (w :: v :: S)) X C.exec rfl ((isRef_up b v).trans hv) ((isRef_up b w).trans hw) (pc0 := pc) (same := same) rfl (hb C.bys hd) rfl ?_ (by omega) (pc' := if acV cd same = true then tg else pc + 3) ?_ k
    · rw [← hs]
      have : upV b v = upV b w ↔ v = w := by
        constructor
        · intro q; cases v <;> cases w <;> simp_all [upV, Value.isRef]
        · intro q; rw [q]
      simp [this]
    · congr 1; omega) h
theorem go_ifnull_null {o : Int} (hd : Dc bytes pc (.ifnull o) 3 nx) (ht : (pc : Int) + o = (tg : Nat)) (h : Go C tg L S H cells slots) : Go C pc L (.null :: S) H cells slots :=
  go_pure (fun T _ _ _ X t k => XS.ifnullYes X.here C.exec rfl (pc0 := pc) (pc' := tg) rfl (hb C.bys hd.1) rfl (by omega) (by omega) k) h
theorem go_ifnull_ref {o : Int} {a : Nat} (hd : Dc bytes pc (.ifnull o) 3 nx) (h : Go C nx L S H cells slots) : Go C pc L (.ref a :: S) H cells slots :=
  go_pure (fun T _ _ _ X t k => by obtain ⟨hd, rfl⟩ := hd; exact XS.ifnullNo X.here C.exec rfl (hb C.bys hd) rfl k) h
theorem go_ifnonnull_ref {o : Int} {a : Nat} (hd : Dc bytes pc (.ifnonnull o) 3 nx) (ht : (pc : Int) + o = (tg : Nat)) (h : Go C tg L S H cells slots) : Go C pc L (.ref a :: S) H cells slots :=
  go_pure (fun T _ _ _ X t k => XT.ifnonnullYes X.here C.exec rfl (pc0 := pc) (pc' := tg) rfl (hb C.bys hd.1) rfl (by omega) (by omega) k) h
def oneS : Slot → Bool
  | .unset => true
  | .val v => v.category == 1
  | .second => false
def notL : Slot → Bool
  | .unset => true
  | .val v => v.category == 1
  | .second => true
theorem oneS_up {o : Slot} (h : oneS o = true) : upS b o = .unset ∨ ∃ w, upS b o = .val w ∧ w.category = 1 := by
  cases o with
  | unset => exact Or.inl rfl
  | second => cases h
  | val v => exact Or.inr ⟨_, rfl, (cat_up b v).trans (by simpa [oneS] using h)⟩
theorem set_up (k : Nat) (v : Value) : (L.map (upS b)).toArray.setIfInBounds k (.val (upV b v)) = ((L.set k (.val v)).map (upS b)).toArray := by
  simp [List.map_set, upS]
theorem sto1 {k : Nat} {o : Slot} {v : Value} (hk : L[k]? = some o) (ho : oneS o = true) (hv : v.category = 1) : storeLocals (L.map (upS b)).toArray k (upV b v) = some ((L.set k (.val v)).map (upS b)).toArray := by
  rw [XS.store1 (getL hk) (oneS_up ho) ((cat_up b v).trans hv), set_up]
theorem sto2 {k : Nat} {o o' : Slot} {x : Int64} (hk : L[k]? = some o) (hk' : L[k + 1]? = some o') (ho : oneS o = true ∨ ∃ z, o = .val (.long z)) (ho' : notL o' = true) : storeLocals (L.map (upS b)).toArray k (.long x) = some (((L.set k (.val (.long x))).set (k + 1) .second).map (upS b)).toArray := by
  obtain ⟨A, hA⟩ : ∃ A, A = (L.map (upS b)).toArray := ⟨_, rfl⟩
  have e0 := getL (b := b) hk
  have e1 := getL (b := b) hk'
  have fin : ((L.map (upS b)).toArray.setIfInBounds k (.val (.long x))).setIfInBounds (k + 1) .second = (((L.set k (.val (.long x))).set (k + 1) .second).map (upS b)).toArray := by
    simp [List.map_set, upS, upV]
  rw [← fin]
  rw [← hA] at e0 e1 ⊢
  clear hA fin
  have i0 : k < A.size := (Array.getElem?_eq_some_iff.mp e0).1
  have i1 : k + 1 < A.size := (Array.getElem?_eq_some_iff.mp e1).1
  have s1 : ∀ B : Array Slot, B.size = A.size → setAt B (k + 1) .second = some (B.setIfInBounds (k + 1) .second) := fun B hB => by simp [setAt, hB, i1]
  have self : ∀ (B : Array Slot) (u : Slot), B.size = A.size → B[k + 1]? = some u → (∀ w, u = .val w → w.category ≠ 2) → storeSelf B k (.long x) = some ((B.setIfInBounds k (.val (.long x))).setIfInBounds (k + 1) .second) := by
    intro B u hB hu hc
    have e2 : (B.setIfInBounds k (.val (.long x)))[k + 1]? = some u := by
      rw [Array.getElem?_setIfInBounds_ne (by omega)]; exact hu
    have e3 : setAt B k (.val (.long x)) = some (B.setIfInBounds k (.val (.long x))) := by simp [setAt, hB, i0]
    have e4 := s1 (B.setIfInBounds k (.val (.long x))) (by simp [hB])
    unfold storeSelf
    rw [e3]
    simp only [Option.bind_eq_bind, Option.bind_some, Value.category, if_true, e2]
    cases u with
    | unset => exact e4
    | second => exact e4
    | val w =>
      have := hc w rfl
      simp only [Value.category] at this
      simp only [this, if_false]
      exact e4
  have n1 : ∀ w, upS b o' = .val w → w.category ≠ 2 := by
    intro w hw
    cases o' with
    | unset => cases hw
    | second => cases hw
    | val v => cases hw; rw [cat_up]; intro q; simp [notL, q] at ho'
  rcases ho with ho | ⟨z, rfl⟩
  · have a1 := oneS_up (b := b) ho
    have step : storeLocals A k (.long x) = storeSelf A k (.long x) := by
      rcases a1 with a1 | ⟨w, a1, a2⟩
      · simp [storeLocals, e0, a1]
      · simp [storeLocals, e0, a1, a2]
    rw [step]
    exact self A _ rfl e1 n1
  · have step : storeLocals A k (.long x) = storeSelf (A.setIfInBounds (k + 1) .unset) k (.long x) := by
      have e3 : setAt A (k + 1) .unset = some (A.setIfInBounds (k + 1) .unset) := by simp [setAt, i1]
      unfold storeLocals
      rw [e0]
      simp only [upS, upV, Option.bind_eq_bind, Option.bind_some, Value.category, if_true, e3]
    rw [step, self (A.setIfInBounds (k + 1) .unset) .unset (by simp) (by simp [i1]) (fun w hw => by cases hw)]
    congr 1
    apply Array.ext_getElem?
    intro j
    simp only [Array.getElem?_setIfInBounds]
    by_cases q : k + 1 = j
    · subst q; simp
    · simp [q]
theorem go_istore {k : Nat} {o : Slot} {x : Int32} (hd : Dc bytes pc (.istore k) 2 nx) (hk : L[k]? = some o) (ho : oneS o = true) (h : Go C nx (L.set k (.val (.int x))) S H cells slots) : Go C pc L (.int x :: S) H cells slots :=
  go_pure (fun T _ _ _ X t r => by obtain ⟨hd, rfl⟩ := hd; exact XS.istore X.here C.exec rfl (hb C.bys hd) rfl (sto1 (v := .int x) hk ho rfl) r) h
theorem go_istoreN {k : Fin 4} {o : Slot} {x : Int32} (hd : Dc bytes pc (.istore_n k) 1 nx) (hk : L[k.val]? = some o) (ho : oneS o = true) (h : Go C nx (L.set k.val (.val (.int x))) S H cells slots) : Go C pc L (.int x :: S) H cells slots :=
  go_pure (fun T _ _ _ X t r => by obtain ⟨hd, rfl⟩ := hd; exact XS.istoreN X.here C.exec rfl (hb C.bys hd) rfl (sto1 (v := .int x) hk ho rfl) r) h
theorem cat_ref {v : Value} (h : v.isRef = true) : v.category = 1 := by cases v <;> first | rfl | cases h
theorem go_astore {k : Nat} {o : Slot} {v : Value} (hd : Dc bytes pc (.astore k) 2 nx) (hk : L[k]? = some o) (ho : oneS o = true) (hv : v.isRef = true) (h : Go C nx (L.set k (.val v)) S H cells slots) : Go C pc L (v :: S) H cells slots :=
  go_pure (fun T _ _ _ X t r => by obtain ⟨hd, rfl⟩ := hd; exact XS.astore X.here C.exec rfl (hb C.bys hd) rfl ((isRef_up b v).trans hv) (sto1 (v := v) hk ho (cat_ref hv)) r) h
theorem go_astoreN {k : Fin 4} {o : Slot} {v : Value} (hd : Dc bytes pc (.astore_n k) 1 nx) (hk : L[k.val]? = some o) (ho : oneS o = true) (hv : v.isRef = true) (h : Go C nx (L.set k.val (.val v)) S H cells slots) : Go C pc L (v :: S) H cells slots :=
  go_pure (fun T _ _ _ X t r => by obtain ⟨hd, rfl⟩ := hd; exact XS.astoreN X.here C.exec rfl (hb C.bys hd) rfl ((isRef_up b v).trans hv) (sto1 (v := v) hk ho (cat_ref hv)) r) h
theorem go_lstore {k : Nat} {o o' : Slot} {x : Int64} (hd : Dc bytes pc (.lstore k) 2 nx) (hk : L[k]? = some o) (hk' : L[k + 1]? = some o') (ho : oneS o = true ∨ ∃ z, o = .val (.long z)) (ho' : notL o' = true) (h : Go C nx ((L.set k (.val (.long x))).set (k + 1) .second) S H cells slots) : Go C pc L (.long x :: S) H cells slots :=
  go_pure (fun T _ _ _ X t r => by obtain ⟨hd, rfl⟩ := hd; exact XT.lstore X.here C.exec rfl (hb C.bys hd) rfl (sto2 hk hk' ho ho') r) h
theorem go_lstoreN {k : Fin 4} {o o' : Slot} {x : Int64} (hd : Dc bytes pc (.lstore_n k) 1 nx) (hk : L[k.val]? = some o) (hk' : L[k.val + 1]? = some o') (ho : oneS o = true ∨ ∃ z, o = .val (.long z)) (ho' : notL o' = true) (h : Go C nx ((L.set k.val (.val (.long x))).set (k.val + 1) .second) S H cells slots) : Go C pc L (.long x :: S) H cells slots :=
  go_pure (fun T _ _ _ X t r => by obtain ⟨hd, rfl⟩ := hd; exact XT.lstoreN X.here C.exec rfl (hb C.bys hd) rfl (sto2 hk hk' ho ho') r) h
theorem go_iinc {k : Nat} {i : Int} {x z : Int32} (hd : Dc bytes pc (.iinc k i) 3 nx) (hk : L[k]? = some (.val (.int x))) (hz : Int32.ofInt i = z) (h : Go C nx (L.set k (.val (.int (x + z)))) S H cells slots) : Go C pc L S H cells slots :=
  go_pure (fun T _ _ _ X t r => by obtain ⟨hd, rfl⟩ := hd; subst hz; exact XS.iinc X.here C.exec rfl (hb C.bys hd) (getL hk) (sto1 (v := .int (x + Int32.ofInt i)) hk rfl rfl) r) h
/-! ### the heap -/
theorem cell_arr {i : Nat} {ty : FieldType} {vs : List Value} {h : Heap} (RR : Rel Z a0 b H h) (hH : H[i]? = some (ar ty vs)) : ∃ c : Cell, Arr Z h (b + i) c ty ∧ c.slots = (vs.map (upV b)).toArray := by
  obtain ⟨c, A, e, -⟩ := RR.2 i _ hH
  exact ⟨c, A, e⟩
theorem cell_exa {i : Nat} {ty : FieldType} {vs : List Value} {h : Heap} (RR : Rel Z a0 b H h) (hH : H[i]? = some (ar ty vs)) : Exa Z h (b + i) ("[" ++ ty.toString) := by
  obtain ⟨c, A, e, E⟩ := RR.2 i _ hH
  exact E
theorem idx_ok {j : Int32} {k n : Nat} (hj : j.toInt = (k : Int)) (hk : k < n) : ¬ (j < 0 ∨ n ≤ j.toNatClampNeg) := by
  rw [Int32.lt_iff_toInt_lt]
  have e0 : (0 : Int32).toInt = 0 := rfl
  simp only [Int32.toNatClampNeg, hj, e0]
  omega
theorem clamp_eq {j : Int32} {k : Nat} (hj : j.toInt = (k : Int)) : j.toNatClampNeg = k := by simp [Int32.toNatClampNeg, hj]
theorem go_iaload {i k : Nat} {vs : List Value} {j : Int32} {v : Value} (hd : Dc bytes pc .iaload 1 nx) (hH : H[i]? = some (ar .int vs)) (hj : j.toInt = (k : Int)) (hv : vs[k]? = some v) (h : Go C nx L (v :: S) H cells slots) : Go C pc L (.int j :: .ref i :: S) H cells slots := by
  intro T locs X N RR
  obtain ⟨c1, A, e1⟩ := cell_arr RR hH
  obtain ⟨hd, rfl⟩ := hd
  have hk : k < vs.length := (List.getElem?_eq_some_iff.mp hv).1
  exact (h T locs X N RR).back fun t r => X.iaload C.exec A.1 (State.isArrayOf_alike C.warm.alike A.2.1) A.2.2 (idx_ok hj (by rw [e1]; simpa using hk)) (by rw [clamp_eq hj, e1]; simp [hv]) (g := frm b m pc L (.int j :: .ref i :: S)) rfl rfl (hb C.bys hd) t r
theorem go_laload {i k : Nat} {vs : List Value} {j : Int32} {v : Value} (hd : Dc bytes pc .laload 1 nx) (hH : H[i]? = some (ar .long vs)) (hj : j.toInt = (k : Int)) (hv : vs[k]? = some v) (h : Go C nx L (v :: S) H cells slots) : Go C pc L (.int j :: .ref i :: S) H cells slots := by
  intro T locs X N RR
  obtain ⟨c1, A, e1⟩ := cell_arr RR hH
  obtain ⟨hd, rfl⟩ := hd
  have hk : k < vs.length := (List.getElem?_eq_some_iff.mp hv).1
  exact (h T locs X N RR).back fun t r => X.laload C.exec A.1 (State.isArrayOf_alike C.warm.alike A.2.1) A.2.2 (idx_ok hj (by rw [e1]; simpa using hk)) (by rw [clamp_eq hj, e1]; simp [hv]) (g := frm b m pc L (.int j :: .ref i :: S)) rfl rfl (hb C.bys hd) t r
theorem go_baload {i k : Nat} {vs : List Value} {j : Int32} {v : Value} (hd : Dc bytes pc .baload 1 nx) (hH : H[i]? = some (ar .byte vs)) (hj : j.toInt = (k : Int)) (hv : vs[k]? = some v) (h : Go C nx L (v :: S) H cells slots) : Go C pc L (.int j :: .ref i :: S) H cells slots := by
  intro T locs X N RR
  obtain ⟨c1, A, e1⟩ := cell_arr RR hH
  obtain ⟨hd, rfl⟩ := hd
  have hk : k < vs.length := (List.getElem?_eq_some_iff.mp hv).1
  exact (h T locs X N RR).back fun t r => X.baloadBytes C.exec A.1 (State.isArrayOf_alike C.warm.alike A.2.1) A.2.2 (idx_ok hj (by rw [e1]; simpa using hk)) (by rw [clamp_eq hj, e1]; simp [hv]) (g := frm b m pc L (.int j :: .ref i :: S)) rfl rfl (hb C.bys hd) t r
theorem go_zaload {i k : Nat} {vs : List Value} {j : Int32} {v : Value} (hd : Dc bytes pc .baload 1 nx) (hH : H[i]? = some (ar .boolean vs)) (hj : j.toInt = (k : Int)) (hv : vs[k]? = some v) (h : Go C nx L (v :: S) H cells slots) : Go C pc L (.int j :: .ref i :: S) H cells slots := by
  intro T locs X N RR
  obtain ⟨c1, A, e1⟩ := cell_arr RR hH
  obtain ⟨hd, rfl⟩ := hd
  have hk : k < vs.length := (List.getElem?_eq_some_iff.mp hv).1
  exact (h T locs X N RR).back fun t r => X.baloadBooleans C.exec A.1 (State.isArrayOf_alike C.warm.alike A.2.1) A.2.2 (idx_ok hj (by rw [e1]; simpa using hk)) (by rw [clamp_eq hj, e1]; simp [hv]) (g := frm b m pc L (.int j :: .ref i :: S)) rfl rfl (hb C.bys hd) t r
theorem go_aaload {i k : Nat} {ty : FieldType} {vs : List Value} {j : Int32} {v : Value} (hd : Dc bytes pc .aaload 1 nx) (hH : H[i]? = some (ar ty vs)) (hty : ty.isReference = true) (hj : j.toInt = (k : Int)) (hv : vs[k]? = some v) (h : Go C nx L (v :: S) H cells slots) : Go C pc L (.int j :: .ref i :: S) H cells slots := by
  intro T locs X N RR
  obtain ⟨c1, A, e1⟩ := cell_arr RR hH
  obtain ⟨hd, rfl⟩ := hd
  have hk : k < vs.length := (List.getElem?_eq_some_iff.mp hv).1
  exact (h T locs X N RR).back fun t r => X.aaload C.exec A.1 (State.isArrayOf_alike C.warm.alike A.2.1) hty A.2.2 (idx_ok hj (by rw [e1]; simpa using hk)) (by rw [clamp_eq hj, e1]; simp [hv]) (g := frm b m pc L (.int j :: .ref i :: S)) rfl rfl (hb C.bys hd) t r
theorem go_len {i : Nat} {ty : FieldType} {vs : List Value} {n : Int32} (hd : Dc bytes pc .arraylength 1 nx) (hH : H[i]? = some (ar ty vs)) (hn : vs.length.toInt32 = n) (h : Go C nx L (.int n :: S) H cells slots) : Go C pc L (.ref i :: S) H cells slots := by
  intro T locs X N RR
  obtain ⟨c1, A, e1⟩ := cell_arr RR hH
  obtain ⟨hd, rfl⟩ := hd
  subst hn
  refine (h T locs X N RR).back fun t k => X.arraylength C.exec A.1 (State.isArrayOf_alike C.warm.alike A.2.1) (g := frm b m pc L (.ref i :: S)) rfl rfl (hb C.bys hd) t ?_
  have e2 : c1.slots.size = vs.length := by rw [e1]; simp
  rw [e2]
  exact k
theorem go_getfield {i j idx : Nat} {Cn n d : String} {fs : List (String × String × Value)} {v : Value} (hd : Dc bytes pc (.getfield idx) 3 nx) (w : Jvm.Cond.fieldLink y.cls idx Cn n d ∈ W) (hH : H[i]? = some (ob Cn fs)) (hf : fs[j]? = some (n, d, v)) (h : Go C nx L (v :: S) H cells slots) : Go C pc L (.ref i :: S) H cells slots := by
  intro T locs X N RR
  obtain ⟨hd, rfl⟩ := hd
  have K : CellOk Z a0 b T.heap (b + i) (ob Cn fs) := RR.2 i _ hH
  obtain ⟨T1, X1, e1, st⟩ := getF X C.exec C.warm C.own (host := "") (Or.inl (C.hw _ w)) Via.refl rfl (K.2.1 _ (List.mem_of_getElem? hf)).1 (g := frm b m pc L (.ref i :: S)) rfl rfl (hb C.bys hd)
  exact (h T1 locs X1 N (by rw [e1]; exact RR)).back st
theorem go_getfieldN {i j idx : Nat} {Cn n d host : String} {fs : List (String × String × Value)} {v : Value} (hd : Dc bytes pc (.getfield idx) 3 nx) (w : Jvm.Cond.fieldLinkNest y.cls idx Cn n d host ∈ W) (hH : H[i]? = some (ob Cn fs)) (hf : fs[j]? = some (n, d, v)) (h : Go C nx L (v :: S) H cells slots) : Go C pc L (.ref i :: S) H cells slots := by
  intro T locs X N RR
  obtain ⟨hd, rfl⟩ := hd
  have K : CellOk Z a0 b T.heap (b + i) (ob Cn fs) := RR.2 i _ hH
  obtain ⟨T1, X1, e1, st⟩ := getF X C.exec C.warm C.own (Or.inr (C.hw _ w)) Via.refl rfl (K.2.1 _ (List.mem_of_getElem? hf)).1 (g := frm b m pc L (.ref i :: S)) rfl rfl (hb C.bys hd)
  exact (h T1 locs X1 N (by rw [e1]; exact RR)).back st
theorem go_putfieldN {i j idx kk : Nat} {Cn n d : String} {fs : List (String × String × Value)} {v v' o : Value} {ty : FieldType} (hd : Dc bytes pc (.putfield idx) 3 nx) (w : Jvm.Cond.fieldLink y.cls idx Cn n d ∈ W) (wl : Jvm.Cond.lays Cn Cn n d ∈ W ∨ (Jvm.Cond.laysFinal Cn Cn n d ∈ W ∧ y.cls = Cn ∧ y.name = "<init>")) (wi : Jvm.Cond.instantiable Cn kk ∈ W) (hty : parseFieldDescriptor d = some ty) (hH : H[i]? = some (ob Cn fs)) (hf : fs[j]? = some (n, d, o)) (hn : narrow ty (upV b v) = upV b v') (hfit : fits ty (upV b v') = true)
    (h : Go C nx L S (H.set i (ob Cn (fs.set j (n, d, v')))) cells slots) : Go C pc L (v :: .ref i :: S) H cells slots := by
  intro T locs X N RR
  obtain ⟨hd, rfl⟩ := hd
  have K : CellOk Z a0 b T.heap (b + i) (ob Cn fs) := RR.2 i _ hH
  obtain ⟨T1, h1, X1, e1, W1, st⟩ := putFN X C.exec C.warm C.own (C.hw _ w) Via.refl rfl (K.2.1 _ (List.mem_of_getElem? hf)).1 K.1 (wl.imp (fun q => C.hw _ q) (fun q => ⟨C.hw _ q.1, q.2.1, C.named.trans q.2.2⟩)) (C.hw _ wi) hty hn hfit (g := frm b m pc L (v :: .ref i :: S)) rfl rfl (hb C.bys hd)
  exact (h T1 _ X1 (Fr.snoc X1 N (Nat.le_add_right ..)) (by rw [e1]; exact RR.wr W1 (K.fset hf W1))).back st
theorem go_putfield {i j idx kk : Nat} {Cn n d : String} {fs : List (String × String × Value)} {v o : Value} {ty : FieldType} (hd : Dc bytes pc (.putfield idx) 3 nx) (w : Jvm.Cond.fieldLink y.cls idx Cn n d ∈ W) (wl : Jvm.Cond.lays Cn Cn n d ∈ W ∨ (Jvm.Cond.laysFinal Cn Cn n d ∈ W ∧ y.cls = Cn ∧ y.name = "<init>")) (wi : Jvm.Cond.instantiable Cn kk ∈ W) (hty : parseFieldDescriptor d = some ty) (hH : H[i]? = some (ob Cn fs)) (hf : fs[j]? = some (n, d, o)) (hn : narrow ty (upV b v) = upV b v) (hfit : fits ty (upV b v) = true)
    (h : Go C nx L S (H.set i (ob Cn (fs.set j (n, d, v)))) cells slots) : Go C pc L (v :: .ref i :: S) H cells slots := go_putfieldN hd w wl wi hty hH hf hn hfit h
theorem go_iastore {i k : Nat} {vs : List Value} {j : Int32} {x : Int32} (hd : Dc bytes pc .iastore 1 nx) (hH : H[i]? = some (ar .int vs)) (hj : j.toInt = (k : Int)) (hk : k < vs.length) (h : Go C nx L S (H.set i (ar .int (vs.set k (.int (x))))) cells slots) : Go C pc L (.int x :: .int j :: .ref i :: S) H cells slots := by
  intro T locs X N RR
  obtain ⟨c1, A, e1⟩ := cell_arr RR hH
  obtain ⟨hd, rfl⟩ := hd
  obtain ⟨T1, h1, X1, eh, W1, st⟩ := stI X C.exec C.warm rfl A (j := j) (idx_ok hj (by rw [e1]; simpa using hk)) (g := frm b m pc L (.int x :: .int j :: .ref i :: S)) rfl rfl (hb C.bys hd)
  rw [clamp_eq hj] at W1
  have K : CellOk Z a0 b h1 (b + i) (ar .int (vs.set k (.int (x)))) := ⟨_, A.same W1, by simp [Cell.setSlot, e1, List.map_set, upV, nar], (cell_exa RR hH).wr W1⟩
  exact (h T1 _ X1 (Fr.snoc X1 N (Nat.le_add_right ..)) (by rw [eh]; exact RR.wr W1 K)).back st
theorem go_lastore {i k : Nat} {vs : List Value} {j : Int32} {x : Int64} (hd : Dc bytes pc .lastore 1 nx) (hH : H[i]? = some (ar .long vs)) (hj : j.toInt = (k : Int)) (hk : k < vs.length) (h : Go C nx L S (H.set i (ar .long (vs.set k (.long (x))))) cells slots) : Go C pc L (.long x :: .int j :: .ref i :: S) H cells slots := by
  intro T locs X N RR
  obtain ⟨c1, A, e1⟩ := cell_arr RR hH
  obtain ⟨hd, rfl⟩ := hd
  obtain ⟨T1, h1, X1, eh, W1, st⟩ := stJ X C.exec C.warm rfl A (j := j) (idx_ok hj (by rw [e1]; simpa using hk)) (g := frm b m pc L (.long x :: .int j :: .ref i :: S)) rfl rfl (hb C.bys hd)
  rw [clamp_eq hj] at W1
  have K : CellOk Z a0 b h1 (b + i) (ar .long (vs.set k (.long (x)))) := ⟨_, A.same W1, by simp [Cell.setSlot, e1, List.map_set, upV, nar], (cell_exa RR hH).wr W1⟩
  exact (h T1 _ X1 (Fr.snoc X1 N (Nat.le_add_right ..)) (by rw [eh]; exact RR.wr W1 K)).back st
theorem go_bastore {i k : Nat} {vs : List Value} {j : Int32} {x : Int32} (hd : Dc bytes pc .bastore 1 nx) (hH : H[i]? = some (ar .byte vs)) (hj : j.toInt = (k : Int)) (hk : k < vs.length) (h : Go C nx L S (H.set i (ar .byte (vs.set k (.int (x.toInt8.toInt32))))) cells slots) : Go C pc L (.int x :: .int j :: .ref i :: S) H cells slots := by
  intro T locs X N RR
  obtain ⟨c1, A, e1⟩ := cell_arr RR hH
  obtain ⟨hd, rfl⟩ := hd
  obtain ⟨T1, h1, X1, eh, W1, st⟩ := stB X C.exec C.warm rfl A (j := j) (idx_ok hj (by rw [e1]; simpa using hk)) (g := frm b m pc L (.int x :: .int j :: .ref i :: S)) rfl rfl (hb C.bys hd)
  rw [clamp_eq hj] at W1
  have K : CellOk Z a0 b h1 (b + i) (ar .byte (vs.set k (.int (x.toInt8.toInt32)))) := ⟨_, A.same W1, by simp [Cell.setSlot, e1, List.map_set, upV, nar], (cell_exa RR hH).wr W1⟩
  exact (h T1 _ X1 (Fr.snoc X1 N (Nat.le_add_right ..)) (by rw [eh]; exact RR.wr W1 K)).back st
theorem go_zastore {i k : Nat} {vs : List Value} {j : Int32} {x : Int32} (hd : Dc bytes pc .bastore 1 nx) (hH : H[i]? = some (ar .boolean vs)) (hj : j.toInt = (k : Int)) (hk : k < vs.length) (h : Go C nx L S (H.set i (ar .boolean (vs.set k (.int (x &&& 1))))) cells slots) : Go C pc L (.int x :: .int j :: .ref i :: S) H cells slots := by
  intro T locs X N RR
  obtain ⟨c1, A, e1⟩ := cell_arr RR hH
  obtain ⟨hd, rfl⟩ := hd
  obtain ⟨T1, h1, X1, eh, W1, st⟩ := stZ X C.exec C.warm rfl A (j := j) (idx_ok hj (by rw [e1]; simpa using hk)) (g := frm b m pc L (.int x :: .int j :: .ref i :: S)) rfl rfl (hb C.bys hd)
  rw [clamp_eq hj] at W1
  have K : CellOk Z a0 b h1 (b + i) (ar .boolean (vs.set k (.int (x &&& 1)))) := ⟨_, A.same W1, by simp [Cell.setSlot, e1, List.map_set, upV, nar], (cell_exa RR hH).wr W1⟩
  exact (h T1 _ X1 (Fr.snoc X1 N (Nat.le_add_right ..)) (by rw [eh]; exact RR.wr W1 K)).back st
/-- the fields of a new object, laid -/
def Laids (Z : State) (a0 : Array Value) (b : Nat) (Cn : String) : List (String × String × Value) → Prop
  | [] => True
  | f :: fs => (Laid Z a0 Cn Cn f.1 f.2.1 ∧ ∃ t, parseFieldDescriptor f.2.1 = some t ∧ defaultValue t = upV b f.2.2) ∧ Laids Z a0 b Cn fs
theorem Laids.all {Cn : String} : ∀ {fs : List (String × String × Value)}, Laids Z a0 b Cn fs → ∀ f ∈ fs, Laid Z a0 Cn Cn f.1 f.2.1 ∧ ∃ t, parseFieldDescriptor f.2.1 = some t ∧ defaultValue t = upV b f.2.2
  | [], _, f, hf => by cases hf
  | g :: gs, h, f, hf => by
    rcases List.mem_cons.mp hf with rfl | hf
    · exact h.1
    · exact Laids.all h.2 f hf
theorem go_new {idx n : Nat} {Cn : String} {fs : List (String × String × Value)} (hd : Dc bytes pc (.new idx) 3 nx) (w : Jvm.Cond.classLink y.cls idx Cn ∈ W) (wi : Jvm.Cond.instantiable Cn n ∈ W) (wz : Jvm.Cond.initialized Cn ∈ W) (hl : Laids Z a0 b Cn fs) (hnd : (fs.map (·.1)).Nodup) (hc : cells + 1 ≤ R.cells) (hs : slots + n ≤ R.slots)
    (h : Go C nx L (.ref H.length :: S) (H ++ [ob Cn fs]) (cells + 1) (slots + n)) : Go C pc L S H cells slots := by
  intro T locs X N RR
  obtain ⟨hd, rfl⟩ := hd
  obtain ⟨vm', cC, kC, h1, h2, h3, h4, X', st⟩ := X.newCold C.exec C.own (mv C.warm (C.hw _ w)) (mv C.warm (C.hw _ wi)) (mv C.warm (C.hw _ wz)) (g := frm b m pc L S) rfl (hb C.bys hd) hc hs
  rw [C.warm.alike.findClass] at h1
  obtain ⟨kZ, z1, -⟩ := Vm.findClass_spec h1
  obtain ⟨k', z2, z3⟩ := C.warm.alike.2.2 _ _ z1
  cases h2.symm.trans z2
  have ei : kC.instanceTypes = kZ.instanceTypes := by rw [z3]
  have hN : (T.heap.push { cls := cC, slots := kC.instanceTypes.map defaultValue, vm := .none })[T.heap.size]? = some { cls := cC, slots := kC.instanceTypes.map defaultValue, vm := .none } := by simp
  have hE : Ext T.heap (T.heap.push { cls := cC, slots := kC.instanceTypes.map defaultValue, vm := .none }) := ⟨by simp, fun a c q => by
    rw [Array.getElem?_push_lt (Array.getElem?_eq_some_iff.mp q).1]; exact (Array.getElem?_eq_getElem _).symm.trans q⟩
  have ea : T.heap.size = b + H.length := RR.1
  have st2 := st
  rw [ea] at st2
  refine (h _ locs X' N (RR.push hE (by simp) ?_)).back st2
  rw [← ea]
  refine ⟨⟨_, kZ, hN, h1, z1, rfl, fun _ => by simp [ei]⟩, fun f hf => ?_, hnd⟩
  obtain ⟨La, t, ht, hdv⟩ := hl.all f hf
  refine ⟨?_, La, t, ht⟩
  obtain ⟨c1, k1, cf, kf, i, ff, a1, a2, a3, a4, a5, a6, -⟩ := La.spec
  cases h1.symm.trans a1
  cases z1.symm.trans a2
  exact ⟨_, cf, kf, i, ff, hN, a3, a4, by simp, rfl, a5, by simp [ei, a6, (State.fieldFound?_type a3 ht).2, hdv]⟩
theorem up_default (t : FieldType) : upV b (defaultValue t) = defaultValue t := by cases t <;> rfl
theorem go_newarray {aty : ArrayType} {n : Int32} {k cap : Nat} {vs : List Value} (hd : Dc bytes pc (.newarray aty) 2 nx) (w : Jvm.Cond.arrayClass (newarray.typeOf aty) ∈ W) (hn : n.toInt = (k : Int)) (hv : List.replicate k (defaultValue (newarray.typeOf aty)) = vs) (hcap : k ≤ cap) (hbig : cap * 8 ≤ 536870912) (hc : cells + 1 ≤ R.cells) (hs : slots + cap ≤ R.slots)
    (h : Go C nx L (.ref H.length :: S) (H ++ [ar (newarray.typeOf aty) vs]) (cells + 1) (slots + cap)) : Go C pc L (.int n :: S) H cells slots := by
  intro T locs X N RR
  obtain ⟨hd, rfl⟩ := hd
  have hcb : componentBytes (newarray.typeOf aty) ≤ 8 := by cases aty <;> decide
  have ek := clamp_eq hn
  obtain ⟨cA, kA, comp, h1, h2, h3, X', st⟩ := X.newarrayPrim C.exec (mvA C.warm (C.hw _ w)) (g := frm b m pc L (.int n :: S)) rfl (hb C.bys hd) rfl (by rw [Int32.lt_iff_toInt_lt, hn]; have : (0 : Int32).toInt = 0 := rfl; omega) (by rw [ek]; exact Nat.le_trans (Nat.mul_le_mul hcap hcb) hbig) hc (by omega)
  rw [ek] at X' st
  rw [C.warm.alike.findClass] at h1
  obtain ⟨kZ, z1, -⟩ := Vm.findClass_spec h1
  obtain ⟨k', z2, z3⟩ := C.warm.alike.2.2 _ _ z1
  cases h2.symm.trans z2
  have ea : T.heap.size = b + H.length := RR.1
  have hE : Ext T.heap (T.heap.push { cls := cA, slots := Array.replicate k (defaultValue (newarray.typeOf aty)), vm := .none }) := ⟨by simp, fun a c q => by
    rw [Array.getElem?_push_lt (Array.getElem?_eq_some_iff.mp q).1]; exact (Array.getElem?_eq_getElem _).symm.trans q⟩
  have st2 := st
  rw [ea] at st2
  refine (h _ locs (X'.more (Nat.le_refl _) (by omega)) N (RR.push hE (by simp) ?_)).back st2
  rw [← ea]
  have hkind : kZ.kind = .array comp (newarray.typeOf aty) := by rw [← h3, z3]
  have hN : (T.heap.push { cls := cA, slots := Array.replicate k (defaultValue (newarray.typeOf aty)), vm := .none })[T.heap.size]? = some { cls := cA, slots := Array.replicate k (defaultValue (newarray.typeOf aty)), vm := .none } := by simp
  refine ⟨_, ⟨hN, ⟨by simp, kZ, z1, comp, hkind⟩, by simp⟩, ?_, ⟨_, kZ, hN, h1, z1, rfl, fun q => by rw [hkind] at q; cases q⟩⟩
  subst hv
  simp [up_default]
theorem go_clone {i idx cap : Nat} {vs : List Value} (hd : Dc bytes pc (.invokevirtual idx) 3 nx) (w1 : Jvm.Cond.methodLink y.cls idx ⟨"[I", "clone", "()Ljava/lang/Object;"⟩ ∈ W) (w2 : Jvm.Cond.sameMethod "[I" "java/lang/Object" "clone" "()Ljava/lang/Object;" ∈ W) (w3 : Jvm.Cond.native ⟨"java/lang/Object", "clone", "()Ljava/lang/Object;"⟩ ∈ W)
    (w4 : Jvm.Cond.instanceMethod ⟨"java/lang/Object", "clone", "()Ljava/lang/Object;"⟩ ∈ W) (w5 : Jvm.Cond.selects "[I" ⟨"[I", "clone", "()Ljava/lang/Object;"⟩ ⟨"java/lang/Object", "clone", "()Ljava/lang/Object;"⟩ ∈ W) (w6 : Jvm.Cond.castable "[I" "java/lang/Cloneable" ∈ W)
    (hH : H[i]? = some (ar .int vs)) (hvi : ∀ v ∈ vs, ∃ x : Int32, v = .int x) (hL : L.length = nL) (hf : 1 ≤ R.frames) (wdt : Nat) (hwd : (S.map Value.category).sum ≤ wdt) (hlo : wdt + 14 ≤ R.locals) (hcap : vs.length ≤ cap) (hc : cells + 1 ≤ R.cells) (hs : slots + cap ≤ R.slots)
    (h : Go C nx L (.ref H.length :: S) (H ++ [ar .int vs]) (cells + 1) (slots + cap)) : Go C pc L (.ref i :: S) H cells slots := by
  intro T locs X N RR
  obtain ⟨hd, rfl⟩ := hd
  obtain ⟨cl, A, es⟩ := cell_arr RR hH
  obtain ⟨c2, k, e1, e2, e3, -, e5⟩ := cell_exa RR hH
  cases A.1.symm.trans e1
  have e2' : Z.vm.findClass "[I" = some cl.cls := e2
  obtain ⟨c1, cC, g1, g2, g3⟩ := Cond.castable_spec (C.hw _ w6)
  cases e2'.symm.trans g1
  have hal : Z.vm.Alike T.vm := C.warm.alike.trans X.warmed.alike
  obtain ⟨hst, k2, hk2, comp, hkind⟩ := A.2.1
  have hsz : cl.slots.size = vs.length := by rw [es]; simp
  have hfit : ∀ (j : Nat) (v : Value), cl.slots[j]? = some v → T.fitsSlot cl.cls .none j v = true := by
    intro j v hv
    have q : Z.fitsSlot cl.cls .none j v = true := by
      rw [es] at hv
      simp only [List.getElem?_toArray, List.getElem?_map, Option.map_eq_some_iff] at hv
      obtain ⟨u, hu, rfl⟩ := hv
      obtain ⟨x, rfl⟩ := hvi u (List.mem_of_getElem? hu)
      have : Z.slotType? cl.cls .none j = some .int := by simp [State.slotType?, hk2, hkind]
      simp [State.fitsSlot, this, upV, fits]
    rw [← State.fitsSlot_setVm hal] at q
    exact q
  obtain ⟨vm', X', st⟩ := X.cloneArray C.exec C.own (mv C.warm (C.hw _ w1)) (mv C.warm (C.hw _ w2)) (mv C.warm (C.hw _ w3)) (mv C.warm (C.hw _ w4)) (mv C.warm (C.hw _ w5)) (a := b + i) A.1 hst A.2.2 (by rw [C.warm.alike.findClass]; exact e2') (by rw [C.warm.alike.findClass]; exact g2) (by rw [C.warm.alike.assignable]; exact g3)
    hfit (g := frm b m pc L (.ref i :: S)) rfl (by simp [C.ml, hL]) rfl (hb C.bys hd) hf (by
      have : ((S.map (upV b)).map fun v => v.category) = S.map Value.category := by rw [List.map_map]; exact List.map_congr_left fun v _ => cat_up b v
      show 2 * 0 + ((S.map (upV b)).map fun v => v.category).sum + 14 ≤ _
      rw [this]; omega) hc (by rw [hsz]; omega) (by rw [C.warm.alike.clonesLoader]; exact Vm.clonesLoader_of_array hk2 hkind)
  rw [hsz] at X'
  have ea : T.heap.size = b + H.length := RR.1
  have hE : Ext T.heap (T.heap.push { cls := cl.cls, slots := cl.slots }) := ⟨by simp, fun a c q => by
    rw [Array.getElem?_push_lt (Array.getElem?_eq_some_iff.mp q).1]; exact (Array.getElem?_eq_getElem _).symm.trans q⟩
  have hN : (T.heap.push { cls := cl.cls, slots := cl.slots })[T.heap.size]? = some { cls := cl.cls, slots := cl.slots } := by simp
  have st2 := st
  rw [ea] at st2
  refine (h _ locs (X'.more (Nat.le_refl _) (by omega)) N (RR.push hE (by simp) ?_)).back st2
  rw [← ea]
  exact ⟨_, ⟨hN, ⟨by simp, k2, hk2, comp, hkind⟩, by simp⟩, es, ⟨_, k, hN, e2, e3, rfl, e5⟩⟩
theorem go_castA {i idx : Nat} {ty : FieldType} {vs : List Value} (hd : Dc bytes pc (.checkcast idx) 3 nx) (w : Jvm.Cond.classLink y.cls idx ("[" ++ ty.toString) ∈ W) (hH : H[i]? = some (ar ty vs)) (h : Go C nx L (.ref i :: S) H cells slots) : Go C pc L (.ref i :: S) H cells slots := by
  intro T locs X N RR
  obtain ⟨hd, rfl⟩ := hd
  obtain ⟨T1, X1, e1, st⟩ := castY X C.exec C.warm C.own (C.hw _ w) rfl (Ins.self (cell_exa RR hH)) (g := frm b m pc L (.ref i :: S)) rfl rfl (hb C.bys hd)
  exact (h T1 locs X1 N (by rw [e1]; exact RR)).back st
theorem CellOk.keep {a : Addr} {mc : GCell} {h h' : Heap} (q : h'[a]? = h[a]?) (K : CellOk Z a0 b h a mc) : CellOk Z a0 b h' a mc := by
  have ex : ∀ {C : String}, Exa Z h a C → Exa Z h' a C := fun E => by
    obtain ⟨c, k, h1, r⟩ := E; exact ⟨c, k, q.trans h1, r⟩
  rcases mc with ⟨C, fs⟩ | ⟨ty, vs⟩
  · obtain ⟨k1, k2, k3⟩ := K
    refine ⟨ex k1, fun f hf => ⟨?_, (k2 f hf).2⟩, k3⟩
    obtain ⟨c, x1, x2, x3, x4, h1, r⟩ := (k2 f hf).1
    exact ⟨c, x1, x2, x3, x4, q.trans h1, r⟩
  · obtain ⟨c, A, e, E⟩ := K
    exact ⟨c, ⟨q.trans A.1, A.2⟩, e, ex E⟩
theorem go_anewarray {idx : Nat} {Cn : String} {n : Int32} {k : Nat} {vs : List Value} (hd : Dc bytes pc (.anewarray idx) 3 nx) (w1 : Jvm.Cond.classLink y.cls idx Cn ∈ W) (w2 : Jvm.Cond.arrayOver (.object Cn) ∈ W) (hn : n.toInt = (k : Int)) (hv : List.replicate k .null = vs) (hbig : k * 4 ≤ 536870912) (hc : cells + 1 ≤ R.cells) (hs : slots + k ≤ R.slots)
    (h : Go C nx L (.ref H.length :: S) (H ++ [ar (.object Cn) vs]) (cells + 1) (slots + k)) : Go C pc L (.int n :: S) H cells slots := by
  intro T locs X N RR
  obtain ⟨hd, rfl⟩ := hd
  have ek := clamp_eq hn
  have w2' : (Cond.arrayOver (.object Cn)).before args s = true := Cond.arrayOver_alike C.warm.alike (C.hw _ w2)
  obtain ⟨vm₁, cA, kA, comp, -, h1, h2, h3, -, X', st⟩ := X.anewarrayRefK C.exec C.own (mvT C.warm (C.hw _ w1)) w2' (g := frm b m pc L (.int n :: S)) rfl (hb C.bys hd) rfl (by rw [Int32.lt_iff_toInt_lt, hn]; have : (0 : Int32).toInt = 0 := rfl; omega) (by rw [ek]; exact hbig) hc (by rw [ek]; exact hs)
  rw [ek] at X' st
  rw [C.warm.alike.findClass] at h1
  obtain ⟨kZ, z1, -⟩ := Vm.findClass_spec h1
  obtain ⟨k', z2, z3⟩ := C.warm.alike.2.2 _ _ z1
  cases h2.symm.trans z2
  have ea : T.heap.size = b + H.length := RR.1
  have hE : Ext T.heap (T.heap.push { cls := cA, slots := Array.replicate k .null, vm := .none }) := ⟨by simp, fun a c q => by
    rw [Array.getElem?_push_lt (Array.getElem?_eq_some_iff.mp q).1]; exact (Array.getElem?_eq_getElem _).symm.trans q⟩
  have st2 := st
  rw [ea] at st2
  refine (h _ locs X' N (RR.push hE (by simp) ?_)).back st2
  rw [← ea]
  have hkind : kZ.kind = .array comp (.object Cn) := by rw [← h3, z3]
  have hN : (T.heap.push { cls := cA, slots := Array.replicate k .null, vm := .none })[T.heap.size]? = some { cls := cA, slots := Array.replicate k .null, vm := .none } := by simp
  refine ⟨_, ⟨hN, ⟨by simp, kZ, z1, comp, hkind⟩, by simp⟩, ?_, ⟨_, kZ, hN, h1, z1, rfl, fun q => by rw [hkind] at q; cases q⟩⟩
  subst hv
  simp [upV]
theorem go_aastore {i q k : Nat} {Cn : String} {vs : List Value} {fs : List (String × String × Value)} {j : Int32} (hd : Dc bytes pc .aastore 1 nx) (w : Jvm.Cond.arrayOver (.object Cn) ∈ W) (hH : H[i]? = some (ar (.object Cn) vs)) (hQ : H[q]? = some (ob Cn fs)) (hj : j.toInt = (k : Int)) (hk : k < vs.length)
    (h : Go C nx L S (H.set i (ar (.object Cn) (vs.set k (.ref q)))) cells slots) : Go C pc L (.ref q :: .int j :: .ref i :: S) H cells slots := by
  intro T locs X N RR
  obtain ⟨hd, rfl⟩ := hd
  obtain ⟨c1, A, e1⟩ := cell_arr RR hH
  have E := cell_exa RR hH
  have EQ : Exa Z T.heap (b + q) Cn := (show CellOk Z a0 b T.heap (b + q) (ob Cn fs) from RR.2 q _ hQ).1
  have O : Ovr Z c1.cls Cn := by
    obtain ⟨comp, cA, kA, o1, -, o3, o4, o5⟩ := Cond.arrayOver_spec (C.hw _ w)
    obtain ⟨c2, k2, g1, g2, -⟩ := E
    cases A.1.symm.trans g1
    cases o5.symm.trans g2
    exact ⟨kA, comp, o3, o4, o1⟩
  have hsz : c1.slots.size = vs.length := by rw [e1]; simp
  have hcl := clamp_eq hj
  obtain ⟨T1, h1, X1, e2, W1, st⟩ := stR X C.exec C.warm rfl A (j := j) (v := .ref (b + q)) (by rw [hsz]; exact idx_ok hj hk) rfl (Sto.of A O (Ins.self EQ)) (g := frm b m pc L (.ref q :: .int j :: .ref i :: S)) rfl rfl (hb C.bys hd)
  rw [hcl] at W1 X1
  refine (h T1 _ X1 (Fr.snoc X1 N (Nat.le_add_right ..)) ?_).back st
  rw [e2]
  refine RR.wr W1 ?_
  obtain ⟨c2, g1, g2, g3, g4⟩ := W1
  cases A.1.symm.trans g1
  refine ⟨c1.setSlot k (.ref (b + q)), ⟨?_, ?_, ?_⟩, ?_, E.wr ⟨c1, g1, g2, g3, g4⟩⟩
  · rw [g4]; simp [(Array.getElem?_eq_some_iff.mp g1).1]
  · exact ⟨A.2.1.1, A.2.1.2⟩
  · exact A.2.2
  · simp [Cell.setSlot, e1, List.map_set, upV]
theorem go_arraycopy {i q idx sp dp n : Nat} {ty : FieldType} {vs ds vs' : List Value} {js jd jn : Int32} (hd : Dc bytes pc (.invokestatic idx) 3 nx) (w1 : Jvm.Cond.methodLink y.cls idx Jvm.Stand.acN ∈ W) (w2 : Jvm.Cond.native Jvm.Stand.acN ∈ W) (w3 : Jvm.Cond.static Jvm.Stand.acN ∈ W) (w4 : Jvm.Cond.initialized "java/lang/System" ∈ W)
    (hI : H[i]? = some (ar ty vs)) (hQ : H[q]? = some (ar ty ds)) (hty : refKind ty = false) (hsp : js.toInt = (sp : Int)) (hdp : jd.toInt = (dp : Int)) (hn : jn.toInt = (n : Int)) (h4 : sp + n ≤ vs.length) (h5 : dp + n ≤ ds.length)
    (hvals : ∀ t, t < n → ∃ x : Int32, vs[sp + t]? = some (.int x) ∧ fits ty (.int x) = true) (hv' : ∀ j, vs'[j]? = if dp ≤ j ∧ j < dp + n then vs[sp + (j - dp)]? else ds[j]?)
    (hL : L.length = nL) (hf : 1 ≤ R.frames) (wdt : Nat) (hwd : (S.map Value.category).sum ≤ wdt) (hlo : wdt + 18 ≤ R.locals)
    (h : Go C nx L S (H.set q (ar ty vs')) cells slots) : Go C pc L (.int jn :: .int jd :: .ref q :: .int js :: .ref i :: S) H cells slots := by
  intro T locs X N RR
  obtain ⟨hd, rfl⟩ := hd
  obtain ⟨cs, A, es⟩ := cell_arr RR hI
  obtain ⟨cd, B, ed⟩ := cell_arr RR hQ
  have ss : cs.slots.size = vs.length := by rw [es]; simp
  have sd : cd.slots.size = ds.length := by rw [ed]; simp
  have z0 : (0 : Int32).toInt = 0 := rfl
  obtain ⟨hs1, ks, hks, sComp, hsk⟩ := State.isArrayOf_alike (T := s) C.warm.alike A.2.1
  obtain ⟨hd1, kd, hkd, dComp, hdk⟩ := State.isArrayOf_alike (T := s) C.warm.alike B.2.1
  have gd : ∀ t, t < n → ∃ x : Int32, cs.slots.getD (sp + t) .null = .int x ∧ fits ty (.int x) = true := fun t ht => by
    obtain ⟨x, x1, x2⟩ := hvals t ht
    refine ⟨x, ?_, x2⟩
    rw [es, Array.getD_eq_getD_getElem?]
    simp [x1, upV]
  obtain ⟨vm₁, -, X', st⟩ := X.arraycopyK C.exec C.own (mvT C.warm (C.hw _ w1)) (mvT C.warm (C.hw _ w2)) (mvT C.warm (C.hw _ w3)) (mvT C.warm (C.hw _ w4)) (srcPos := js) (destPos := jd) (n := jn) A.1 B.1 hs1 hd1 A.2.2 B.2.2 hks hkd hsk hdk (by simp [hty])
    (by rw [Int32.lt_iff_toInt_lt]; omega) (by rw [Int32.lt_iff_toInt_lt]; omega) (by rw [Int32.lt_iff_toInt_lt]; omega) (by omega) (by omega)
    (fun vm1 _ t ht => by
      rw [clamp_eq hn] at ht
      obtain ⟨x, x1, x2⟩ := gd t ht
      rw [clamp_eq hsp, x1]
      exact ⟨x2, trivial⟩) (g := frm b m pc L (.int jn :: .int jd :: .ref q :: .int js :: .ref i :: S)) rfl (by simp [C.ml, hL]) rfl (hb C.bys hd) hf (by
      have e1 : ((S.map (upV b)).map fun v => v.category) = S.map Value.category := by rw [List.map_map]; exact List.map_congr_left fun v _ => cat_up b v
      have e2 : nativeFrameWords "java/lang/System" "arraycopy" 5 + 11 = 18 := by decide
      show 2 * 0 + ((S.map (upV b)).map fun v => v.category).sum + (nativeFrameWords "java/lang/System" "arraycopy" 5 + 11) ≤ _
      rw [e1, e2]; omega)
  have hfacts := Cell.storeRun_facts cd jd.toNatClampNeg (cs.stretch js.toNatClampNeg jn.toNatClampNeg)
  have hbq : b + q < T.heap.size := (Array.getElem?_eq_some_iff.mp B.1).1
  refine (h _ _ X' (Fr.app N ?_) ?_).back st
  · intro x hx
    rw [Jvm.Stand.copyLocs_base hx]; exact Nat.le_add_right ..
  · refine ⟨?_, fun (j : Nat) mc' qq => ?_⟩
    · show (T.heap.setIfInBounds (b + q) _).size = _
      rw [List.length_set]; simp [RR.1]
    · rw [List.getElem?_set] at qq
      split at qq
      · rename_i e
        subst e
        split at qq
        · cases qq
          have hN : (T.heap.setIfInBounds (b + q) (copied cs cd js jd jn))[b + q]? = some (copied cs cd js jd jn) := by simp [hbq]
          refine ⟨copied cs cd js jd jn, ⟨hN, ⟨?_, ?_⟩, ?_⟩, ?_, ?_⟩
          · rw [hfacts.2.1]; exact B.2.1.1
          · rw [hfacts.1]; exact B.2.1.2
          · rw [hfacts.2.1]; exact B.2.2
          · apply Array.ext_getElem?
            intro t
            have sl := Cell.stretch_length cs js.toNatClampNeg jn.toNatClampNeg
            have hg := Cell.storePairs_get cd jd.toNatClampNeg (cs.stretch js.toNatClampNeg jn.toNatClampNeg) 0 t (by rw [sl, clamp_eq hdp, clamp_eq hn, sd]; omega)
            refine Eq.trans hg ?_
            have er : ((vs'.map (upV b)).toArray)[t]? = (vs'[t]?).map (upV b) := by simp
            rw [er, sl, clamp_eq hdp, clamp_eq hn, clamp_eq hsp, Nat.add_zero, hv']
            split
            · rename_i hh
              obtain ⟨x, x1, -⟩ := gd (t - dp) (by omega)
              obtain ⟨x', y1, -⟩ := hvals (t - dp) (by omega)
              have : cs.slots.getD (sp + (t - dp)) .null = .int x' := by rw [es, Array.getD_eq_getD_getElem?]; simp [y1, upV]
              rw [y1]
              simp only [Cell.stretch, List.getElem?_map, List.getElem?_range (show t - dp < n by omega), Option.map_some, this, upV]
            · rw [ed]; simp
          · obtain ⟨c2, k2, g1, g2, g3, g4, g5⟩ := cell_exa RR hQ
            cases B.1.symm.trans g1
            refine ⟨copied cs cd js jd jn, k2, hN, by rw [hfacts.1]; exact g2, by rw [hfacts.1]; exact g3, by rw [hfacts.2.1]; exact g4, fun r => by rw [hfacts.2.2.1]; exact g5 r⟩
        · cases qq
      · rename_i e
        refine CellOk.keep ?_ (RR.2 j mc' qq)
        show (T.heap.setIfInBounds (b + q) _)[b + j]? = T.heap[b + j]?
        rw [Array.getElem?_setIfInBounds_ne (by omega)]
/-! ### calls -/
theorem go_initO {idx : Nat} (hd : Dc bytes pc (.invokespecial idx) 3 nx) (w1 : Jvm.Cond.methodLink y.cls idx Lib.objectInit ∈ W) (w2 : Jvm.Cond.instanceMethod Lib.objectInit ∈ W) (w3 : Jvm.Cond.code Lib.objectInit ⟨#[0xb1]⟩ 1 none ∈ W) (hL : L.length = nL) (hf : 1 ≤ R.frames) (wdt : Nat) (hwd : (S.map Value.category).sum ≤ wdt) (hlo : wdt + 12 ≤ R.locals) {i : Nat}
    (h : Go C nx L S H cells slots) : Go C pc L (.ref i :: S) H cells slots := by
  intro T locs X N RR
  obtain ⟨hd, rfl⟩ := hd
  obtain ⟨T1, X1, e1, st⟩ := initO X C.exec C.warm C.own (C.hw _ w1) (C.hw _ w2) (C.hw _ w3) rfl (g := frm b m pc L (.ref i :: S)) rfl (by simp [C.ml, hL]) rfl (hb C.bys hd) hf (W := wdt) (by
    have : ((S.map (upV b)).map fun v => v.category) = S.map Value.category := by rw [List.map_map]; exact List.map_congr_left fun v _ => cat_up b v
    show 2 * 0 + ((S.map (upV b)).map fun v => v.category).sum ≤ wdt
    rw [this]; omega) hlo
  exact (h T1 locs X1 N (by rw [e1]; exact RR)).back st
theorem wid_up (wdt : Nat) (hwd : (S.map Value.category).sum ≤ wdt) : 2 * 0 + ((S.map (upV b)).map fun v => v.category).sum ≤ wdt := by
  have : ((S.map (upV b)).map fun v => v.category) = S.map Value.category := by rw [List.map_map]; exact List.map_congr_left fun v _ => cat_up b v
  rw [this]; omega
theorem app_up (v : Option Value) : (v.map (upV b)).toList ++ S.map (upV b) = (v.toList ++ S).map (upV b) := by cases v <;> rfl
theorem go_virtual {y' : MethodName} {bytes' : ByteArray} {maxL : Nat} {ret' : Option FieldType} {rm : Room} {as : List Value} {i idx : Nat} {Cn : String} {fs : List (String × String × Value)} {P : Option Value → List GCell → Prop} {ps : List FieldType} {rt : Option FieldType}
    (hd : Dc bytes pc (.invokevirtual idx) 3 nx) (w1 : Jvm.Cond.methodLink y.cls idx y' ∈ W) (w2 : Jvm.Cond.declares y' ∈ W) (w3 : Jvm.Cond.selects Cn y' y' ∈ W) (w4 : Jvm.Cond.instanceMethod y' ∈ W) (w5 : Jvm.Cond.code y' bytes' maxL ret' ∈ W) (w6 : Jvm.Cond.initialized y'.cls ∈ W)
    (hy : y'.cls ≠ "java/lang/invoke/MethodHandle" ∧ y'.cls ≠ "java/lang/invoke/VarHandle") (hdesc : parseMethodDescriptor y'.desc = some ⟨ps, rt⟩) (hlen : as.length = ps.length)
    (M : Met l Z a0 b y' bytes' maxL ret' rm (.ref i :: as) H P) (hH : H[i]? = some (ob Cn fs)) (hS : S' = as.reverse ++ .ref i :: S) (hL : L.length = nL) (wdt : Nat) (hwd : (S.map Value.category).sum ≤ wdt)
    (hfr : rm.frames + 1 ≤ R.frames) (hlo : wdt + (maxL + 11) + rm.locals ≤ R.locals) (hc : cells + rm.cells ≤ R.cells) (hs : slots + rm.slots ≤ R.slots)
    (h : ∀ v H', P v H' → Go C nx L (v.toList ++ S) H' (cells + rm.cells) (slots + rm.slots)) : Go C pc L S' H cells slots := by
  intro T locs X N RR
  obtain ⟨hd, rfl⟩ := hd
  subst hS
  have E : Exa Z T.heap (b + i) Cn := (show CellOk Z a0 b T.heap (b + i) (ob Cn fs) from RR.2 i _ hH).1
  obtain ⟨cB, kB, q1, q2, q3⟩ := isOf (T := T) C.warm rfl E
  obtain ⟨_, _, ⟨T', L', k', n'⟩, -, X', ⟨Lc, hQ, l', y1, z1⟩, st⟩ := X.virtualBack C.exec (y := y') (z := y') C.own (mvT C.warm (C.hw _ w1)) (mvT C.warm (C.hw _ w2)) (notFace_of_selects (args := #[]) (mvT C.warm (C.hw _ w3))) (mvT C.warm (C.hw _ w3)) (mvT C.warm (C.hw _ w4)) hy
    (backOf (W := wdt) (M T.heap RR []) C.warm (C.hw _ w5) (C.hw _ w6) hfr hlo) q1 q3 (g := frm b m pc L (as.reverse ++ .ref i :: S)) rfl (by simp [C.ml, hL]) (Steps.refl _) (argsL := as.map (upV b)) (rest := S.map (upV b)) (lenOf hdesc (by simp [hlen])) (by simp [upV]) (wid_up wdt hwd) (hb C.bys hd) (fun _ _ => ⟨by simp [upV], rfl, hc, hs⟩)
  dsimp only [Pt.U, Pt.locs, Pt.cells, Pt.slots] at X' l' y1 z1 st hQ
  subst l' y1 z1
  obtain ⟨N2, v', H', rfl, RR', hP⟩ := hQ
  refine (h v' H' hP T' _ X' (Fr.app N N2) RR').back fun t k => st.trans ?_
  rw [app_up]
  exact k
theorem go_private {y' : MethodName} {bytes' : ByteArray} {maxL kk : Nat} {ret' : Option FieldType} {rm : Room} {as : List Value} {i idx : Nat} {Cn : String} {fs : List (String × String × Value)} {P : Option Value → List GCell → Prop} {ps : List FieldType} {rt : Option FieldType}
    (hd : Dc bytes pc (.invokevirtual idx) 3 nx) (w1 : Jvm.Cond.methodLink y.cls idx y' ∈ W ∨ ∃ host, Jvm.Cond.methodLinkNest y.cls idx y' host ∈ W) (w2 : Jvm.Cond.privateMethod y' ∈ W) (w3 : Jvm.Cond.instantiable y'.cls kk ∈ W) (w4 : Jvm.Cond.instanceMethod y' ∈ W) (w5 : Jvm.Cond.code y' bytes' maxL ret' ∈ W) (w6 : Jvm.Cond.initialized y'.cls ∈ W)
    (hy : y'.cls ≠ "java/lang/invoke/MethodHandle" ∧ y'.cls ≠ "java/lang/invoke/VarHandle") (hdesc : parseMethodDescriptor y'.desc = some ⟨ps, rt⟩) (hlen : as.length = ps.length)
    (M : Met l Z a0 b y' bytes' maxL ret' rm (.ref i :: as) H P) (hH : H[i]? = some (ob Cn fs)) (hS : S' = as.reverse ++ .ref i :: S) (hL : L.length = nL) (wdt : Nat) (hwd : (S.map Value.category).sum ≤ wdt)
    (hfr : rm.frames + 1 ≤ R.frames) (hlo : wdt + (maxL + 11) + rm.locals ≤ R.locals) (hc : cells + rm.cells ≤ R.cells) (hs : slots + rm.slots ≤ R.slots)
    (h : ∀ v H', P v H' → Go C nx L (v.toList ++ S) H' (cells + rm.cells) (slots + rm.slots)) : Go C pc L S' H cells slots := by
  intro T locs X N RR
  obtain ⟨hd, rfl⟩ := hd
  subst hS
  have E : Exa Z T.heap (b + i) Cn := (show CellOk Z a0 b T.heap (b + i) (ob Cn fs) from RR.2 i _ hH).1
  obtain ⟨cell, q1, q2⟩ := E.cell
  have hp : s.PrivateAt y' := Cond.privateMethod_at (mvP C.warm (C.hw _ w2) (args := #[]))
  have hcode : (Cond.code y' bytes' maxL ret').before #[] s = true := mvT C.warm (C.hw _ w5)
  have hin : (Cond.instantiable y'.cls kk).before #[] s = true := mvT C.warm (C.hw _ w3)
  obtain ⟨mk, methM, hnamed, hmethM, hstM, habM⟩ := Cond.instanceMethod_spec (show (Cond.instanceMethod y').before #[] s = true from mvT C.warm (C.hw _ w4))
  obtain ⟨c', k', i1, i2, -, i4, -⟩ := Cond.instantiable_spec hin
  have hcls : mk.cls = c' := Option.some.inj ((findClass_of_methodNamed hnamed).symm.trans i1)
  subst hcls
  have hni : k'.isInterface = false := by simp only [Bool.or_eq_false_iff] at i4; exact i4.1
  obtain ⟨methM', cM, hmethM', -, -, -, -, -, -, hsigM⟩ := Cond.code_spec hnamed hcode
  cases hmethM.symm.trans hmethM'
  have hl2 : (as.map (upV b)).length = methM.sig.parameters.length := lenOf hdesc (by simp [hlen]) _ hsigM
  have hst2 : (frm b m pc L (as.reverse ++ .ref i :: S)).stack = (as.map (upV b)).reverse ++ .ref (b + i) :: S.map (upV b) := by simp [upV]
  have hd' := hb C.bys hd
  obtain ⟨vm₁, X₁, st1⟩ : ∃ vm', Stand p l e R s m args below meth c (T.setVm vm') locs cells slots ∧
      ∀ target, (∀ acts, Steps p.tables e below (doInvoke e ((T.setVm vm').setTop { frm b m pc L (as.reverse ++ .ref i :: S) with stack := S.map (upV b) }) acts mk (.ref (b + i) :: as.map (upV b)).toArray).1 target) → Steps p.tables e below (T.setTop (frm b m pc L (as.reverse ++ .ref i :: S))) target := by
    have hsel := selectMethod_private (p := e.platform) (c := cell.cls) hmethM (hp mk methM hnamed hmethM)
    rcases w1 with w | ⟨host, w⟩
    · exact X.invokevirtual C.exec C.own (mvT C.warm (C.hw _ w)) hnamed hmethM hstM i2 hni hy q1 q2 hsel hmethM habM i2 hni rfl hl2 hst2 hd'
    · exact X.invokevirtualNest C.exec C.own (Cond.methodLinkNest_wide C.warm (C.hw _ w) :) hnamed hmethM hstM i2 hni hy q1 q2 hsel hmethM habM i2 hni rfl hl2 hst2 hd'
  obtain ⟨_, ⟨T', L', k2, n'⟩, X', ⟨Lc, hQ, l', y1, z1⟩, st2⟩ := (backOf (W := wdt) (M T.heap RR []) C.warm (C.hw _ w5) (C.hw _ w6) hfr hlo) m meth c ⟨T.setVm vm₁, locs, cells, slots⟩ { frm b m pc L (as.reverse ++ .ref i :: S) with stack := S.map (upV b) } (.invokevirtual idx) mk (.ref (b + i) :: as.map (upV b)).toArray X₁ rfl (by simp [C.ml, hL]) hd' (wid_up wdt hwd) (X₁.named hnamed) ⟨by simp [upV], rfl, hc, hs⟩
  have st := (st1 _ fun acts => by rw [doInvoke_state]; exact Steps.refl _).trans st2
  dsimp only [Pt.U, Pt.locs, Pt.cells, Pt.slots] at X' l' y1 z1 st hQ
  subst l' y1 z1
  obtain ⟨N2, v', H', rfl, RR', hP⟩ := hQ
  refine (h v' H' hP T' _ X' (Fr.app N N2) RR').back fun t k => st.trans ?_
  rw [app_up]
  exact k
theorem go_special {y' : MethodName} {bytes' : ByteArray} {maxL : Nat} {rm : Room} {as : List Value} {i idx : Nat} {P : Option Value → List GCell → Prop} {ps : List FieldType} {rt : Option FieldType} (hn : y'.name = "<init>")
    (hd : Dc bytes pc (.invokespecial idx) 3 nx) (w1 : Jvm.Cond.methodLink y.cls idx y' ∈ W) (w4 : Jvm.Cond.instanceMethod y' ∈ W) (w5 : Jvm.Cond.code y' bytes' maxL none ∈ W) (w6 : Jvm.Cond.initialized y'.cls ∈ W)
    (hy : y'.cls ≠ "java/lang/invoke/MethodHandle" ∧ y'.cls ≠ "java/lang/invoke/VarHandle") (hdesc : parseMethodDescriptor y'.desc = some ⟨ps, rt⟩) (hlen : as.length = ps.length)
    (M : Met l Z a0 b y' bytes' maxL none rm (.ref i :: as) H P) (hS : S' = as.reverse ++ .ref i :: S) (hL : L.length = nL) (wdt : Nat) (hwd : (S.map Value.category).sum ≤ wdt)
    (hfr : rm.frames + 1 ≤ R.frames) (hlo : wdt + (maxL + 11) + rm.locals ≤ R.locals) (hc : cells + rm.cells ≤ R.cells) (hs : slots + rm.slots ≤ R.slots)
    (h : ∀ v H', P v H' → Go C nx L (v.toList ++ S) H' (cells + rm.cells) (slots + rm.slots)) : Go C pc L S' H cells slots := by
  intro T locs X N RR
  obtain ⟨hd, rfl⟩ := hd
  subst hS
  obtain ⟨_, _, ⟨T', L', k', n'⟩, -, X', ⟨Lc, hQ, l', y1, z1⟩, st⟩ := X.specialBack C.exec (y := y') hn C.own (mvT C.warm (C.hw _ w1)) (mvT C.warm (C.hw _ w4)) (mvT C.warm (C.hw _ w5)) hy
    (backOf (W := wdt) (M T.heap RR []) C.warm (C.hw _ w5) (C.hw _ w6) hfr hlo) (g := frm b m pc L (as.reverse ++ .ref i :: S)) rfl (by simp [C.ml, hL]) (Steps.refl _) (a := b + i) (argsL := as.map (upV b)) (rest := S.map (upV b)) (lenOf hdesc (by simp [hlen])) (by simp [upV]) (wid_up wdt hwd) (hb C.bys hd) (fun _ _ => ⟨by simp [upV], rfl, hc, hs⟩)
  dsimp only [Pt.U, Pt.locs, Pt.cells, Pt.slots] at X' l' y1 z1 st hQ
  subst l' y1 z1
  obtain ⟨N2, v', H', rfl, RR', hP⟩ := hQ
  refine (h v' H' hP T' _ X' (Fr.app N N2) RR').back fun t k => st.trans ?_
  rw [app_up]
  exact k
theorem go_static {y' : MethodName} {bytes' : ByteArray} {maxL : Nat} {ret' : Option FieldType} {rm : Room} {as : List Value} {idx : Nat} {P : Option Value → List GCell → Prop} {ps : List FieldType} {rt : Option FieldType}
    (hd : Dc bytes pc (.invokestatic idx) 3 nx) (w1 : Jvm.Cond.methodLink y.cls idx y' ∈ W) (w2 : Jvm.Cond.static y' ∈ W) (w5 : Jvm.Cond.code y' bytes' maxL ret' ∈ W) (w6 : Jvm.Cond.initialized y'.cls ∈ W)
    (hy : y'.cls ≠ "java/lang/invoke/MethodHandle" ∧ y'.cls ≠ "java/lang/invoke/VarHandle") (hdesc : parseMethodDescriptor y'.desc = some ⟨ps, rt⟩) (hlen : as.length = ps.length)
    (M : Met l Z a0 b y' bytes' maxL ret' rm as H P) (hS : S' = as.reverse ++ S) (hL : L.length = nL) (wdt : Nat) (hwd : (S.map Value.category).sum ≤ wdt)
    (hfr : rm.frames + 1 ≤ R.frames) (hlo : wdt + (maxL + 11) + rm.locals ≤ R.locals) (hc : cells + rm.cells ≤ R.cells) (hs : slots + rm.slots ≤ R.slots)
    (h : ∀ v H', P v H' → Go C nx L (v.toList ++ S) H' (cells + rm.cells) (slots + rm.slots)) : Go C pc L S' H cells slots := by
  intro T locs X N RR
  obtain ⟨hd, rfl⟩ := hd
  subst hS
  obtain ⟨_, _, ⟨T', L', k', n'⟩, -, X', ⟨Lc, hQ, l', y1, z1⟩, st⟩ := Jvm.LawKit.callS X C.exec (y := y') C.own (mvT C.warm (C.hw _ w1)) (mvT C.warm (C.hw _ w2)) (mvT C.warm (C.hw _ w6)) (mvT C.warm (C.hw _ w5)) hy
    (backOf (W := wdt) (M T.heap RR []) C.warm (C.hw _ w5) (C.hw _ w6) hfr hlo) (g := frm b m pc L (as.reverse ++ S)) rfl (by simp [C.ml, hL]) (argsL := as.map (upV b)) (rest := S.map (upV b)) (lenOf hdesc (by simp [hlen])) (by simp) (wid_up wdt hwd) (hb C.bys hd) (fun _ _ => ⟨by simp, rfl, hc, hs⟩)
  dsimp only [Pt.U, Pt.locs, Pt.cells, Pt.slots] at X' l' y1 z1 st hQ
  subst l' y1 z1
  obtain ⟨N2, v', H', rfl, RR', hP⟩ := hQ
  refine (h v' H' hP T' _ X' (Fr.app N N2) RR').back fun t k => st _ ?_
  rw [app_up]
  exact k
/-! ### the end -/
theorem go_ret {w w' : Value} {t : FieldType} {i : Instr} (hd : Dc bytes pc i 1 nx) (hret : ret = some t) (hn : narrow t (upV b w) = upV b w)
    (hi : (i = .ireturn ∧ (t = .int ∨ t = .boolean ∨ t = .byte ∨ t = .char ∨ t = .short) ∧ ∃ z, w = .int z) ∨ (i = .lreturn ∧ t = .long ∧ ∃ z, w = .long z) ∨ (i = .areturn ∧ t.isReference = true ∧ w.isRef = true))
    (hc : cells ≤ R.cells) (hs : slots ≤ R.slots) (h : Post (some w) H) : Go C pc L (w :: S) H cells slots := by
  intro T locs X N RR
  obtain ⟨fs, hr, hrun, hended, hW, hsame⟩ := X.leave (v := some (upV b w)) (fun q => by rw [C.rets, hret] at q; cases q) C.nolock
  refine ⟨_, _, retOut X C.exec (t := t) (i := i) (C.rets.trans hret) hn ?_ (hb C.bys hd.1) hr, hrun, hended, _, locs, rfl, ⟨N, some w, H, rfl, RR, h⟩, ⟨_, rfl⟩, hW, hsame.mono hc hs⟩
  rcases hi with ⟨h1, h2, z, rfl⟩ | ⟨h1, h2, z, rfl⟩ | ⟨h1, h2, h3⟩
  · exact Or.inl ⟨h1, h2, z, rfl⟩
  · exact Or.inr (Or.inl ⟨h1, h2, z, rfl⟩)
  · exact Or.inr (Or.inr (Or.inr (Or.inr ⟨h1, h2, (isRef_up b w).trans h3⟩)))
theorem go_ireturn {x : Int32} (hd : Dc bytes pc .ireturn 1 nx) (hret : ret = some .int) (hc : cells ≤ R.cells) (hs : slots ≤ R.slots) (h : Post (some (.int x)) H) : Go C pc L (.int x :: S) H cells slots :=
  go_ret (w' := .null) hd hret rfl (Or.inl ⟨rfl, Or.inl rfl, _, rfl⟩) hc hs h
theorem go_zreturn {x : Int32} (hd : Dc bytes pc .ireturn 1 nx) (hret : ret = some .boolean) (hz : x &&& 1 = x) (hc : cells ≤ R.cells) (hs : slots ≤ R.slots) (h : Post (some (.int x)) H) : Go C pc L (.int x :: S) H cells slots :=
  go_ret (w' := .null) hd hret (by show Value.int (x &&& 1) = .int x; rw [hz]) (Or.inl ⟨rfl, Or.inr (Or.inl rfl), _, rfl⟩) hc hs h
theorem go_breturn {x : Int32} (hd : Dc bytes pc .ireturn 1 nx) (hret : ret = some .byte) (hz : x.toInt8.toInt32 = x) (hc : cells ≤ R.cells) (hs : slots ≤ R.slots) (h : Post (some (.int x)) H) : Go C pc L (.int x :: S) H cells slots :=
  go_ret (w' := .null) hd hret (by show Value.int (x.toInt8.toInt32) = .int x; rw [hz]) (Or.inl ⟨rfl, Or.inr (Or.inr (Or.inl rfl)), _, rfl⟩) hc hs h
theorem go_lreturn {x : Int64} (hd : Dc bytes pc .lreturn 1 nx) (hret : ret = some .long) (hc : cells ≤ R.cells) (hs : slots ≤ R.slots) (h : Post (some (.long x)) H) : Go C pc L (.long x :: S) H cells slots :=
  go_ret (w' := .null) hd hret rfl (Or.inr (Or.inl ⟨rfl, rfl, _, rfl⟩)) hc hs h
theorem narrow_ref {t : FieldType} (ht : t.isReference = true) (v : Value) : narrow t v = v := by cases t <;> first | rfl | cases ht
theorem go_areturn {v : Value} {t : FieldType} (hd : Dc bytes pc .areturn 1 nx) (hret : ret = some t) (ht : t.isReference = true) (hv : v.isRef = true) (hc : cells ≤ R.cells) (hs : slots ≤ R.slots) (h : Post (some v) H) : Go C pc L (v :: S) H cells slots :=
  go_ret (w' := .null) hd hret (narrow_ref ht _) (Or.inr (Or.inr ⟨rfl, ht, hv⟩)) hc hs h
theorem go_return (hd : Dc bytes pc .return_ 1 nx) (hret : ret = none) (hc : cells ≤ R.cells) (hs : slots ≤ R.slots) (h : Post none H) : Go C pc L [] H cells slots := by
  intro T locs X N RR
  obtain ⟨fs, hr, hrun, hended, hW, hsame⟩ := X.leave (v := none) (fun _ => rfl) C.nolock
  exact ⟨_, _, X.returnOut C.exec (C.rets.trans hret) (hb C.bys hd.1) hr, hrun, hended, _, locs, rfl, ⟨N, none, H, rfl, RR, h⟩, ⟨_, rfl⟩, hW, hsame.mono hc hs⟩
def fillL : List Value → List Slot
  | [] => []
  | v :: vs => if v.category = 2 then .val v :: .second :: fillL vs else .val v :: fillL vs
def locs0 (as : List Value) (nL : Nat) : List Slot := fillL as ++ List.replicate (nL - (fillL as).length) .unset
theorem fill_foldl (as : List Value) : ∀ acc : Array Slot, (as.map (upV b)).foldl (fun acc v => if v.category = 2 then (acc.push (.val v)).push .second else acc.push (.val v)) acc = acc ++ ((fillL as).map (upS b)).toArray := by
  induction as with
  | nil => intro acc; simp [fillL]
  | cons v vs ih =>
    intro acc
    simp only [List.map_cons, List.foldl_cons, cat_up, fillL]
    by_cases q : v.category = 2
    · rw [if_pos q, if_pos q, ih]
      simp [upS, ← Array.toList_inj]
    · rw [if_neg q, if_neg q, ih]
      simp [upS, ← Array.toList_inj]
theorem entry_up (m : MethodId) (as : List Value) (nL : Nat) : entryFrame m (as.map (upV b)).toArray nL = frm b m 0 (locs0 as nL) [] := by
  have e := fill_foldl (b := b) as #[]
  have e1 : argsToLocals (as.map (upV b)).toArray nL = ((locs0 as nL).map (upS b)).toArray := by
    simp only [argsToLocals, List.foldl_toArray', List.size_toArray, List.foldl_toArray]
    rw [e]
    simp [locs0, upS, ← Array.toList_inj]
  simp [entryFrame, e1]
end Walk
theorem Met.of_go {l : Launch} {Z : State} {a0 : Array Value} {W : List Jvm.Cond} {b : Nat} {y : MethodName} {bytes : ByteArray} {nL : Nat} {ret : Option FieldType} {rm : Room} {as : List Value} {H : List GCell} {Post : Option Value → List GCell → Prop} (hw : ∀ d ∈ W, d.before a0 Z = true) (hp : plainFor y = true) {L0 : List Slot} (hL : locs0 as nL = L0)
    (body : ∀ p e s m args below meth c (C : Cx p l e rm s m args below meth c Z a0 W b y bytes nL ret Post), Go C 0 L0 [] H 0 0) : Met l Z a0 b y bytes nL ret rm as H Post := by
  intro h RR ws
  refine MetFree.of_bodySF hp hisR ?_
  intro p e s m args below meth c s₁ Bd hml0 hP hK
  obtain ⟨rfl, hZ, hh⟩ := hP
  have C : Cx p l e rm s m (as.map (upV b)).toArray below meth c Z a0 W b y bytes nL ret Post := ⟨Bd.exec, hZ, findClass_of_methodNamed Bd.named, Bd.bytes, hml0, Bd.returns, Bd.notSynchronized, (name_of_methodNamed Bd.named Bd.method).1, hw⟩
  have X0 : Stand p l e rm s m (as.map (upV b)).toArray below meth c s₁ [] 0 0 := Stand.of_body Bd
  have e0 : s₁.heap = h := by rw [← hh, Bd.state]; rfl
  have g := body p e s m _ below meth c C s₁ [] X0 (Fr.nil b) (by rw [e0]; exact RR)
  obtain ⟨s₂, o, hs, hr⟩ := g
  refine ⟨s₂, o, ?_, hr⟩
  rw [entry_up, hL]
  exact hs
section Places
variable {p : Program} {l : Launch} {e : Env} {R : Room} {s : State} {m : MethodId} {args : Array Value} {below : List Frame} {meth : Method} {c : Code} {Z : State} {a0 : Array Value} {W : List Jvm.Cond} {b : Nat} {y : MethodName} {bytes : ByteArray} {nL : Nat} {ret : Option FieldType} {Post : Option Value → List GCell → Prop} {C : Cx p l e R s m args below meth c Z a0 W b y bytes nL ret Post} {pc nx tg : Nat} {L L' : List Slot} {S S' : List Value} {H H' : List GCell} {cells slots : Nat}
theorem go_istore_1 {s0 o : Slot} {x : Int32} (hd : Dc bytes pc (.istore_n 1) 1 nx) (ho : oneS o = true) (h : Go C nx (s0 :: .val (.int x) :: L) S H cells slots) : Go C pc (s0 :: o :: L) (.int x :: S) H cells slots := go_istoreN hd rfl ho h
theorem go_astore_1 {s0 o : Slot} {v : Value} (hd : Dc bytes pc (.astore_n 1) 1 nx) (ho : oneS o = true) (hv : v.isRef = true) (h : Go C nx (s0 :: .val v :: L) S H cells slots) : Go C pc (s0 :: o :: L) (v :: S) H cells slots := go_astoreN hd rfl ho hv h
theorem go_lstore_1 {s0 o o' : Slot} {x : Int64} (hd : Dc bytes pc (.lstore_n 1) 1 nx) (ho : oneS o = true ∨ ∃ z, o = .val (.long z)) (ho' : notL o' = true) (h : Go C nx (s0 :: .val (.long x) :: .second :: L) S H cells slots) : Go C pc (s0 :: o :: o' :: L) (.long x :: S) H cells slots := go_lstoreN hd rfl rfl ho ho' h
theorem go_istore_2 {s0 s1 o : Slot} {x : Int32} (hd : Dc bytes pc (.istore_n 2) 1 nx) (ho : oneS o = true) (h : Go C nx (s0 :: s1 :: .val (.int x) :: L) S H cells slots) : Go C pc (s0 :: s1 :: o :: L) (.int x :: S) H cells slots := go_istoreN hd rfl ho h
theorem go_astore_2 {s0 s1 o : Slot} {v : Value} (hd : Dc bytes pc (.astore_n 2) 1 nx) (ho : oneS o = true) (hv : v.isRef = true) (h : Go C nx (s0 :: s1 :: .val v :: L) S H cells slots) : Go C pc (s0 :: s1 :: o :: L) (v :: S) H cells slots := go_astoreN hd rfl ho hv h
theorem go_iinc_2 {s0 s1 : Slot} {x z : Int32} {i : Int} (hd : Dc bytes pc (.iinc 2 i) 3 nx) (hz : Int32.ofInt i = z) (h : Go C nx (s0 :: s1 :: .val (.int (x + z)) :: L) S H cells slots) : Go C pc (s0 :: s1 :: .val (.int x) :: L) S H cells slots := go_iinc hd rfl hz h
theorem go_istore_3 {s0 s1 s2 o : Slot} {x : Int32} (hd : Dc bytes pc (.istore_n 3) 1 nx) (ho : oneS o = true) (h : Go C nx (s0 :: s1 :: s2 :: .val (.int x) :: L) S H cells slots) : Go C pc (s0 :: s1 :: s2 :: o :: L) (.int x :: S) H cells slots := go_istoreN hd rfl ho h
theorem go_astore_3 {s0 s1 s2 o : Slot} {v : Value} (hd : Dc bytes pc (.astore_n 3) 1 nx) (ho : oneS o = true) (hv : v.isRef = true) (h : Go C nx (s0 :: s1 :: s2 :: .val v :: L) S H cells slots) : Go C pc (s0 :: s1 :: s2 :: o :: L) (v :: S) H cells slots := go_astoreN hd rfl ho hv h
theorem go_lstore_3 {s0 s1 s2 o o' : Slot} {x : Int64} (hd : Dc bytes pc (.lstore_n 3) 1 nx) (ho : oneS o = true ∨ ∃ z, o = .val (.long z)) (ho' : notL o' = true) (h : Go C nx (s0 :: s1 :: s2 :: .val (.long x) :: .second :: L) S H cells slots) : Go C pc (s0 :: s1 :: s2 :: o :: o' :: L) (.long x :: S) H cells slots := go_lstoreN hd rfl rfl ho ho' h
theorem go_lstoreX_3 {s0 s1 s2 o o' : Slot} {x : Int64} (hd : Dc bytes pc (.lstore_n 3) 1 nx) (ho : oneS o = true ∨ ∃ z, o = .val (.long z)) (ho' : notL o' = true) (h : ∀ x', x' = x → Go C nx (s0 :: s1 :: s2 :: .val (.long x') :: .second :: L) S H cells slots) : Go C pc (s0 :: s1 :: s2 :: o :: o' :: L) (.long x :: S) H cells slots := go_lstoreN hd rfl rfl ho ho' (h x rfl)
theorem go_iinc_3 {s0 s1 s2 : Slot} {x z : Int32} {i : Int} (hd : Dc bytes pc (.iinc 3 i) 3 nx) (hz : Int32.ofInt i = z) (h : Go C nx (s0 :: s1 :: s2 :: .val (.int (x + z)) :: L) S H cells slots) : Go C pc (s0 :: s1 :: s2 :: .val (.int x) :: L) S H cells slots := go_iinc hd rfl hz h
theorem go_istore_4 {s0 s1 s2 s3 o : Slot} {x : Int32} (hd : Dc bytes pc (.istore 4) 2 nx) (ho : oneS o = true) (h : Go C nx (s0 :: s1 :: s2 :: s3 :: .val (.int x) :: L) S H cells slots) : Go C pc (s0 :: s1 :: s2 :: s3 :: o :: L) (.int x :: S) H cells slots := go_istore hd rfl ho h
theorem go_istoreX_4 {s0 s1 s2 s3 o : Slot} {x : Int32} (hd : Dc bytes pc (.istore 4) 2 nx) (ho : oneS o = true) (h : ∀ x', x' = x → Go C nx (s0 :: s1 :: s2 :: s3 :: .val (.int x') :: L) S H cells slots) : Go C pc (s0 :: s1 :: s2 :: s3 :: o :: L) (.int x :: S) H cells slots := go_istore hd rfl ho (h x rfl)
theorem go_astore_4 {s0 s1 s2 s3 o : Slot} {v : Value} (hd : Dc bytes pc (.astore 4) 2 nx) (ho : oneS o = true) (hv : v.isRef = true) (h : Go C nx (s0 :: s1 :: s2 :: s3 :: .val v :: L) S H cells slots) : Go C pc (s0 :: s1 :: s2 :: s3 :: o :: L) (v :: S) H cells slots := go_astore hd rfl ho hv h
theorem go_iinc_4 {s0 s1 s2 s3 : Slot} {x z : Int32} {i : Int} (hd : Dc bytes pc (.iinc 4 i) 3 nx) (hz : Int32.ofInt i = z) (h : Go C nx (s0 :: s1 :: s2 :: s3 :: .val (.int (x + z)) :: L) S H cells slots) : Go C pc (s0 :: s1 :: s2 :: s3 :: .val (.int x) :: L) S H cells slots := go_iinc hd rfl hz h
theorem go_istore_5 {s0 s1 s2 s3 s4 o : Slot} {x : Int32} (hd : Dc bytes pc (.istore 5) 2 nx) (ho : oneS o = true) (h : Go C nx (s0 :: s1 :: s2 :: s3 :: s4 :: .val (.int x) :: L) S H cells slots) : Go C pc (s0 :: s1 :: s2 :: s3 :: s4 :: o :: L) (.int x :: S) H cells slots := go_istore hd rfl ho h
theorem go_istoreX_5 {s0 s1 s2 s3 s4 o : Slot} {x : Int32} (hd : Dc bytes pc (.istore 5) 2 nx) (ho : oneS o = true) (h : ∀ x', x' = x → Go C nx (s0 :: s1 :: s2 :: s3 :: s4 :: .val (.int x') :: L) S H cells slots) : Go C pc (s0 :: s1 :: s2 :: s3 :: s4 :: o :: L) (.int x :: S) H cells slots := go_istore hd rfl ho (h x rfl)
theorem go_astore_5 {s0 s1 s2 s3 s4 o : Slot} {v : Value} (hd : Dc bytes pc (.astore 5) 2 nx) (ho : oneS o = true) (hv : v.isRef = true) (h : Go C nx (s0 :: s1 :: s2 :: s3 :: s4 :: .val v :: L) S H cells slots) : Go C pc (s0 :: s1 :: s2 :: s3 :: s4 :: o :: L) (v :: S) H cells slots := go_astore hd rfl ho hv h
theorem go_iinc_5 {s0 s1 s2 s3 s4 : Slot} {x z : Int32} {i : Int} (hd : Dc bytes pc (.iinc 5 i) 3 nx) (hz : Int32.ofInt i = z) (h : Go C nx (s0 :: s1 :: s2 :: s3 :: s4 :: .val (.int (x + z)) :: L) S H cells slots) : Go C pc (s0 :: s1 :: s2 :: s3 :: s4 :: .val (.int x) :: L) S H cells slots := go_iinc hd rfl hz h
theorem go_istore_6 {s0 s1 s2 s3 s4 s5 o : Slot} {x : Int32} (hd : Dc bytes pc (.istore 6) 2 nx) (ho : oneS o = true) (h : Go C nx (s0 :: s1 :: s2 :: s3 :: s4 :: s5 :: .val (.int x) :: L) S H cells slots) : Go C pc (s0 :: s1 :: s2 :: s3 :: s4 :: s5 :: o :: L) (.int x :: S) H cells slots := go_istore hd rfl ho h
theorem go_istoreX_6 {s0 s1 s2 s3 s4 s5 o : Slot} {x : Int32} (hd : Dc bytes pc (.istore 6) 2 nx) (ho : oneS o = true) (h : ∀ x', x' = x → Go C nx (s0 :: s1 :: s2 :: s3 :: s4 :: s5 :: .val (.int x') :: L) S H cells slots) : Go C pc (s0 :: s1 :: s2 :: s3 :: s4 :: s5 :: o :: L) (.int x :: S) H cells slots := go_istore hd rfl ho (h x rfl)
theorem go_iinc_6 {s0 s1 s2 s3 s4 s5 : Slot} {x z : Int32} {i : Int} (hd : Dc bytes pc (.iinc 6 i) 3 nx) (hz : Int32.ofInt i = z) (h : Go C nx (s0 :: s1 :: s2 :: s3 :: s4 :: s5 :: .val (.int (x + z)) :: L) S H cells slots) : Go C pc (s0 :: s1 :: s2 :: s3 :: s4 :: s5 :: .val (.int x) :: L) S H cells slots := go_iinc hd rfl hz h
theorem go_istore_7 {s0 s1 s2 s3 s4 s5 s6 o : Slot} {x : Int32} (hd : Dc bytes pc (.istore 7) 2 nx) (ho : oneS o = true) (h : Go C nx (s0 :: s1 :: s2 :: s3 :: s4 :: s5 :: s6 :: .val (.int x) :: L) S H cells slots) : Go C pc (s0 :: s1 :: s2 :: s3 :: s4 :: s5 :: s6 :: o :: L) (.int x :: S) H cells slots := go_istore hd rfl ho h
theorem go_istoreX_7 {s0 s1 s2 s3 s4 s5 s6 o : Slot} {x : Int32} (hd : Dc bytes pc (.istore 7) 2 nx) (ho : oneS o = true) (h : ∀ x', x' = x → Go C nx (s0 :: s1 :: s2 :: s3 :: s4 :: s5 :: s6 :: .val (.int x') :: L) S H cells slots) : Go C pc (s0 :: s1 :: s2 :: s3 :: s4 :: s5 :: s6 :: o :: L) (.int x :: S) H cells slots := go_istore hd rfl ho (h x rfl)
theorem go_astore_7 {s0 s1 s2 s3 s4 s5 s6 o : Slot} {v : Value} (hd : Dc bytes pc (.astore 7) 2 nx) (ho : oneS o = true) (hv : v.isRef = true) (h : Go C nx (s0 :: s1 :: s2 :: s3 :: s4 :: s5 :: s6 :: .val v :: L) S H cells slots) : Go C pc (s0 :: s1 :: s2 :: s3 :: s4 :: s5 :: s6 :: o :: L) (v :: S) H cells slots := go_astore hd rfl ho hv h
theorem go_iinc_7 {s0 s1 s2 s3 s4 s5 s6 : Slot} {x z : Int32} {i : Int} (hd : Dc bytes pc (.iinc 7 i) 3 nx) (hz : Int32.ofInt i = z) (h : Go C nx (s0 :: s1 :: s2 :: s3 :: s4 :: s5 :: s6 :: .val (.int (x + z)) :: L) S H cells slots) : Go C pc (s0 :: s1 :: s2 :: s3 :: s4 :: s5 :: s6 :: .val (.int x) :: L) S H cells slots := go_iinc hd rfl hz h
theorem go_istore_8 {s0 s1 s2 s3 s4 s5 s6 s7 o : Slot} {x : Int32} (hd : Dc bytes pc (.istore 8) 2 nx) (ho : oneS o = true) (h : Go C nx (s0 :: s1 :: s2 :: s3 :: s4 :: s5 :: s6 :: s7 :: .val (.int x) :: L) S H cells slots) : Go C pc (s0 :: s1 :: s2 :: s3 :: s4 :: s5 :: s6 :: s7 :: o :: L) (.int x :: S) H cells slots := go_istore hd rfl ho h
theorem go_istoreX_8 {s0 s1 s2 s3 s4 s5 s6 s7 o : Slot} {x : Int32} (hd : Dc bytes pc (.istore 8) 2 nx) (ho : oneS o = true) (h : ∀ x', x' = x → Go C nx (s0 :: s1 :: s2 :: s3 :: s4 :: s5 :: s6 :: s7 :: .val (.int x') :: L) S H cells slots) : Go C pc (s0 :: s1 :: s2 :: s3 :: s4 :: s5 :: s6 :: s7 :: o :: L) (.int x :: S) H cells slots := go_istore hd rfl ho (h x rfl)
theorem go_iinc_8 {s0 s1 s2 s3 s4 s5 s6 s7 : Slot} {x z : Int32} {i : Int} (hd : Dc bytes pc (.iinc 8 i) 3 nx) (hz : Int32.ofInt i = z) (h : Go C nx (s0 :: s1 :: s2 :: s3 :: s4 :: s5 :: s6 :: s7 :: .val (.int (x + z)) :: L) S H cells slots) : Go C pc (s0 :: s1 :: s2 :: s3 :: s4 :: s5 :: s6 :: s7 :: .val (.int x) :: L) S H cells slots := go_iinc hd rfl hz h
theorem go_istore_9 {s0 s1 s2 s3 s4 s5 s6 s7 s8 o : Slot} {x : Int32} (hd : Dc bytes pc (.istore 9) 2 nx) (ho : oneS o = true) (h : Go C nx (s0 :: s1 :: s2 :: s3 :: s4 :: s5 :: s6 :: s7 :: s8 :: .val (.int x) :: L) S H cells slots) : Go C pc (s0 :: s1 :: s2 :: s3 :: s4 :: s5 :: s6 :: s7 :: s8 :: o :: L) (.int x :: S) H cells slots := go_istore hd rfl ho h
theorem go_astore_9 {s0 s1 s2 s3 s4 s5 s6 s7 s8 o : Slot} {v : Value} (hd : Dc bytes pc (.astore 9) 2 nx) (ho : oneS o = true) (hv : v.isRef = true) (h : Go C nx (s0 :: s1 :: s2 :: s3 :: s4 :: s5 :: s6 :: s7 :: s8 :: .val v :: L) S H cells slots) : Go C pc (s0 :: s1 :: s2 :: s3 :: s4 :: s5 :: s6 :: s7 :: s8 :: o :: L) (v :: S) H cells slots := go_astore hd rfl ho hv h
theorem go_istore_10 {s0 s1 s2 s3 s4 s5 s6 s7 s8 s9 o : Slot} {x : Int32} (hd : Dc bytes pc (.istore 10) 2 nx) (ho : oneS o = true) (h : Go C nx (s0 :: s1 :: s2 :: s3 :: s4 :: s5 :: s6 :: s7 :: s8 :: s9 :: .val (.int x) :: L) S H cells slots) : Go C pc (s0 :: s1 :: s2 :: s3 :: s4 :: s5 :: s6 :: s7 :: s8 :: s9 :: o :: L) (.int x :: S) H cells slots := go_istore hd rfl ho h
theorem go_istore_11 {s0 s1 s2 s3 s4 s5 s6 s7 s8 s9 s10 o : Slot} {x : Int32} (hd : Dc bytes pc (.istore 11) 2 nx) (ho : oneS o = true) (h : Go C nx (s0 :: s1 :: s2 :: s3 :: s4 :: s5 :: s6 :: s7 :: s8 :: s9 :: s10 :: .val (.int x) :: L) S H cells slots) : Go C pc (s0 :: s1 :: s2 :: s3 :: s4 :: s5 :: s6 :: s7 :: s8 :: s9 :: s10 :: o :: L) (.int x :: S) H cells slots := go_istore hd rfl ho h
theorem go_istoreX_11 {s0 s1 s2 s3 s4 s5 s6 s7 s8 s9 s10 o : Slot} {x : Int32} (hd : Dc bytes pc (.istore 11) 2 nx) (ho : oneS o = true) (h : ∀ x', x' = x → Go C nx (s0 :: s1 :: s2 :: s3 :: s4 :: s5 :: s6 :: s7 :: s8 :: s9 :: s10 :: .val (.int x') :: L) S H cells slots) : Go C pc (s0 :: s1 :: s2 :: s3 :: s4 :: s5 :: s6 :: s7 :: s8 :: s9 :: s10 :: o :: L) (.int x :: S) H cells slots := go_istore hd rfl ho (h x rfl)
theorem go_iinc_11 {s0 s1 s2 s3 s4 s5 s6 s7 s8 s9 s10 : Slot} {x z : Int32} {i : Int} (hd : Dc bytes pc (.iinc 11 i) 3 nx) (hz : Int32.ofInt i = z) (h : Go C nx (s0 :: s1 :: s2 :: s3 :: s4 :: s5 :: s6 :: s7 :: s8 :: s9 :: s10 :: .val (.int (x + z)) :: L) S H cells slots) : Go C pc (s0 :: s1 :: s2 :: s3 :: s4 :: s5 :: s6 :: s7 :: s8 :: s9 :: s10 :: .val (.int x) :: L) S H cells slots := go_iinc hd rfl hz h
theorem go_istore_12 {s0 s1 s2 s3 s4 s5 s6 s7 s8 s9 s10 s11 o : Slot} {x : Int32} (hd : Dc bytes pc (.istore 12) 2 nx) (ho : oneS o = true) (h : Go C nx (s0 :: s1 :: s2 :: s3 :: s4 :: s5 :: s6 :: s7 :: s8 :: s9 :: s10 :: s11 :: .val (.int x) :: L) S H cells slots) : Go C pc (s0 :: s1 :: s2 :: s3 :: s4 :: s5 :: s6 :: s7 :: s8 :: s9 :: s10 :: s11 :: o :: L) (.int x :: S) H cells slots := go_istore hd rfl ho h
theorem go_astore_12 {s0 s1 s2 s3 s4 s5 s6 s7 s8 s9 s10 s11 o : Slot} {v : Value} (hd : Dc bytes pc (.astore 12) 2 nx) (ho : oneS o = true) (hv : v.isRef = true) (h : Go C nx (s0 :: s1 :: s2 :: s3 :: s4 :: s5 :: s6 :: s7 :: s8 :: s9 :: s10 :: s11 :: .val v :: L) S H cells slots) : Go C pc (s0 :: s1 :: s2 :: s3 :: s4 :: s5 :: s6 :: s7 :: s8 :: s9 :: s10 :: s11 :: o :: L) (v :: S) H cells slots := go_astore hd rfl ho hv h
theorem go_istore_13 {s0 s1 s2 s3 s4 s5 s6 s7 s8 s9 s10 s11 s12 o : Slot} {x : Int32} (hd : Dc bytes pc (.istore 13) 2 nx) (ho : oneS o = true) (h : Go C nx (s0 :: s1 :: s2 :: s3 :: s4 :: s5 :: s6 :: s7 :: s8 :: s9 :: s10 :: s11 :: s12 :: .val (.int x) :: L) S H cells slots) : Go C pc (s0 :: s1 :: s2 :: s3 :: s4 :: s5 :: s6 :: s7 :: s8 :: s9 :: s10 :: s11 :: s12 :: o :: L) (.int x :: S) H cells slots := go_istore hd rfl ho h
theorem go_iinc_13 {s0 s1 s2 s3 s4 s5 s6 s7 s8 s9 s10 s11 s12 : Slot} {x z : Int32} {i : Int} (hd : Dc bytes pc (.iinc 13 i) 3 nx) (hz : Int32.ofInt i = z) (h : Go C nx (s0 :: s1 :: s2 :: s3 :: s4 :: s5 :: s6 :: s7 :: s8 :: s9 :: s10 :: s11 :: s12 :: .val (.int (x + z)) :: L) S H cells slots) : Go C pc (s0 :: s1 :: s2 :: s3 :: s4 :: s5 :: s6 :: s7 :: s8 :: s9 :: s10 :: s11 :: s12 :: .val (.int x) :: L) S H cells slots := go_iinc hd rfl hz h
theorem go_istore_14 {s0 s1 s2 s3 s4 s5 s6 s7 s8 s9 s10 s11 s12 s13 o : Slot} {x : Int32} (hd : Dc bytes pc (.istore 14) 2 nx) (ho : oneS o = true) (h : Go C nx (s0 :: s1 :: s2 :: s3 :: s4 :: s5 :: s6 :: s7 :: s8 :: s9 :: s10 :: s11 :: s12 :: s13 :: .val (.int x) :: L) S H cells slots) : Go C pc (s0 :: s1 :: s2 :: s3 :: s4 :: s5 :: s6 :: s7 :: s8 :: s9 :: s10 :: s11 :: s12 :: s13 :: o :: L) (.int x :: S) H cells slots := go_istore hd rfl ho h
theorem go_virtual_0 {y' : MethodName} {bytes' : ByteArray} {maxL : Nat} {ret' : Option FieldType} {rm : Room} {i idx : Nat} {Cn : String} {fs : List (String × String × Value)} {P : Value → List GCell → Prop} {ps : List FieldType} {rt : Option FieldType} (hd : Dc bytes pc (.invokevirtual idx) 3 nx) (w1 : Jvm.Cond.methodLink y.cls idx y' ∈ W) (w2 : Jvm.Cond.declares y' ∈ W) (w3 : Jvm.Cond.selects Cn y' y' ∈ W) (w4 : Jvm.Cond.instanceMethod y' ∈ W) (w5 : Jvm.Cond.code y' bytes' maxL ret' ∈ W) (w6 : Jvm.Cond.initialized y'.cls ∈ W) (hy : y'.cls ≠ "java/lang/invoke/MethodHandle" ∧ y'.cls ≠ "java/lang/invoke/VarHandle") (hdesc : parseMethodDescriptor y'.desc = some ⟨ps, rt⟩) (hlen : ps.length = 0)
    (M : Met l Z a0 b y' bytes' maxL ret' rm (.ref i :: []) H (fun v H' => ∃ w, v = some w ∧ P w H')) (hH : H[i]? = some (ob Cn fs)) (hL : L.length = nL) (wdt : Nat) (hwd : (S.map Value.category).sum = wdt) (hfr : rm.frames + 1 ≤ R.frames) (hlo : wdt + (maxL + 11) + rm.locals ≤ R.locals) (hc : cells + rm.cells ≤ R.cells) (hs : slots + rm.slots ≤ R.slots)
    (h : ∀ w H', P w H' → Go C nx L (w :: S) H' (cells + rm.cells) (slots + rm.slots)) : Go C pc L (.ref i :: S) H cells slots :=
  go_virtual hd w1 w2 w3 w4 w5 w6 hy hdesc (as := []) (by rw [hlen]; rfl) M hH rfl hL wdt (Nat.le_of_eq hwd) hfr hlo hc hs (fun v H' q => by obtain ⟨w, rfl, q⟩ := q; exact h w H' q)
theorem go_privateV_0 {y' : MethodName} {bytes' : ByteArray} {maxL : Nat} {ret' : Option FieldType} {rm : Room} {i kk idx : Nat} {Cn : String} {fs : List (String × String × Value)} {P : List GCell → Prop} {ps : List FieldType} {rt : Option FieldType} (hd : Dc bytes pc (.invokevirtual idx) 3 nx) (w1 : Jvm.Cond.methodLink y.cls idx y' ∈ W ∨ ∃ host, Jvm.Cond.methodLinkNest y.cls idx y' host ∈ W) (w2 : Jvm.Cond.privateMethod y' ∈ W) (w3 : Jvm.Cond.instantiable y'.cls kk ∈ W) (w4 : Jvm.Cond.instanceMethod y' ∈ W) (w5 : Jvm.Cond.code y' bytes' maxL ret' ∈ W) (w6 : Jvm.Cond.initialized y'.cls ∈ W) (hy : y'.cls ≠ "java/lang/invoke/MethodHandle" ∧ y'.cls ≠ "java/lang/invoke/VarHandle") (hdesc : parseMethodDescriptor y'.desc = some ⟨ps, rt⟩) (hlen : ps.length = 0)
    (M : Met l Z a0 b y' bytes' maxL ret' rm (.ref i :: []) H (fun v H' => v = none ∧ P H')) (hH : H[i]? = some (ob Cn fs)) (hL : L.length = nL) (wdt : Nat) (hwd : (S.map Value.category).sum = wdt) (hfr : rm.frames + 1 ≤ R.frames) (hlo : wdt + (maxL + 11) + rm.locals ≤ R.locals) (hc : cells + rm.cells ≤ R.cells) (hs : slots + rm.slots ≤ R.slots)
    (h : ∀ H', P H' → Go C nx L S H' (cells + rm.cells) (slots + rm.slots)) : Go C pc L (.ref i :: S) H cells slots :=
  go_private hd w1 w2 w3 w4 w5 w6 hy hdesc (as := []) (by rw [hlen]; rfl) M hH rfl hL wdt (Nat.le_of_eq hwd) hfr hlo hc hs (fun v H' q => by obtain ⟨rfl, q⟩ := q; exact h H' q)
theorem go_private_0 {y' : MethodName} {bytes' : ByteArray} {maxL : Nat} {ret' : Option FieldType} {rm : Room} {i kk idx : Nat} {Cn : String} {fs : List (String × String × Value)} {P : Value → List GCell → Prop} {ps : List FieldType} {rt : Option FieldType} (hd : Dc bytes pc (.invokevirtual idx) 3 nx) (w1 : Jvm.Cond.methodLink y.cls idx y' ∈ W ∨ ∃ host, Jvm.Cond.methodLinkNest y.cls idx y' host ∈ W) (w2 : Jvm.Cond.privateMethod y' ∈ W) (w3 : Jvm.Cond.instantiable y'.cls kk ∈ W) (w4 : Jvm.Cond.instanceMethod y' ∈ W) (w5 : Jvm.Cond.code y' bytes' maxL ret' ∈ W) (w6 : Jvm.Cond.initialized y'.cls ∈ W) (hy : y'.cls ≠ "java/lang/invoke/MethodHandle" ∧ y'.cls ≠ "java/lang/invoke/VarHandle") (hdesc : parseMethodDescriptor y'.desc = some ⟨ps, rt⟩) (hlen : ps.length = 0)
    (M : Met l Z a0 b y' bytes' maxL ret' rm (.ref i :: []) H (fun v H' => ∃ w, v = some w ∧ P w H')) (hH : H[i]? = some (ob Cn fs)) (hL : L.length = nL) (wdt : Nat) (hwd : (S.map Value.category).sum = wdt) (hfr : rm.frames + 1 ≤ R.frames) (hlo : wdt + (maxL + 11) + rm.locals ≤ R.locals) (hc : cells + rm.cells ≤ R.cells) (hs : slots + rm.slots ≤ R.slots)
    (h : ∀ w H', P w H' → Go C nx L (w :: S) H' (cells + rm.cells) (slots + rm.slots)) : Go C pc L (.ref i :: S) H cells slots :=
  go_private hd w1 w2 w3 w4 w5 w6 hy hdesc (as := []) (by rw [hlen]; rfl) M hH rfl hL wdt (Nat.le_of_eq hwd) hfr hlo hc hs (fun v H' q => by obtain ⟨w, rfl, q⟩ := q; exact h w H' q)
theorem go_specialV_0 {y' : MethodName} {bytes' : ByteArray} {maxL : Nat} {rm : Room} {i idx : Nat} {P : List GCell → Prop} {ps : List FieldType} {rt : Option FieldType} (hn : y'.name = "<init>") (hd : Dc bytes pc (.invokespecial idx) 3 nx) (w1 : Jvm.Cond.methodLink y.cls idx y' ∈ W) (w4 : Jvm.Cond.instanceMethod y' ∈ W) (w5 : Jvm.Cond.code y' bytes' maxL none ∈ W) (w6 : Jvm.Cond.initialized y'.cls ∈ W) (hy : y'.cls ≠ "java/lang/invoke/MethodHandle" ∧ y'.cls ≠ "java/lang/invoke/VarHandle") (hdesc : parseMethodDescriptor y'.desc = some ⟨ps, rt⟩) (hlen : ps.length = 0)
    (M : Met l Z a0 b y' bytes' maxL none rm (.ref i :: []) H (fun v H' => v = none ∧ P H')) (hL : L.length = nL) (wdt : Nat) (hwd : (S.map Value.category).sum = wdt) (hfr : rm.frames + 1 ≤ R.frames) (hlo : wdt + (maxL + 11) + rm.locals ≤ R.locals) (hc : cells + rm.cells ≤ R.cells) (hs : slots + rm.slots ≤ R.slots)
    (h : ∀ H', P H' → Go C nx L S H' (cells + rm.cells) (slots + rm.slots)) : Go C pc L (.ref i :: S) H cells slots :=
  go_special hn hd w1 w4 w5 w6 hy hdesc (as := []) (by rw [hlen]; rfl) M rfl hL wdt (Nat.le_of_eq hwd) hfr hlo hc hs (fun v H' q => by obtain ⟨rfl, q⟩ := q; exact h H' q)
theorem go_privateV_1 {a1 : Value} {y' : MethodName} {bytes' : ByteArray} {maxL : Nat} {ret' : Option FieldType} {rm : Room} {i kk idx : Nat} {Cn : String} {fs : List (String × String × Value)} {P : List GCell → Prop} {ps : List FieldType} {rt : Option FieldType} (hd : Dc bytes pc (.invokevirtual idx) 3 nx) (w1 : Jvm.Cond.methodLink y.cls idx y' ∈ W ∨ ∃ host, Jvm.Cond.methodLinkNest y.cls idx y' host ∈ W) (w2 : Jvm.Cond.privateMethod y' ∈ W) (w3 : Jvm.Cond.instantiable y'.cls kk ∈ W) (w4 : Jvm.Cond.instanceMethod y' ∈ W) (w5 : Jvm.Cond.code y' bytes' maxL ret' ∈ W) (w6 : Jvm.Cond.initialized y'.cls ∈ W) (hy : y'.cls ≠ "java/lang/invoke/MethodHandle" ∧ y'.cls ≠ "java/lang/invoke/VarHandle") (hdesc : parseMethodDescriptor y'.desc = some ⟨ps, rt⟩) (hlen : ps.length = 1)
    (M : Met l Z a0 b y' bytes' maxL ret' rm (.ref i :: [a1]) H (fun v H' => v = none ∧ P H')) (hH : H[i]? = some (ob Cn fs)) (hL : L.length = nL) (wdt : Nat) (hwd : (S.map Value.category).sum = wdt) (hfr : rm.frames + 1 ≤ R.frames) (hlo : wdt + (maxL + 11) + rm.locals ≤ R.locals) (hc : cells + rm.cells ≤ R.cells) (hs : slots + rm.slots ≤ R.slots)
    (h : ∀ H', P H' → Go C nx L S H' (cells + rm.cells) (slots + rm.slots)) : Go C pc L (a1 :: .ref i :: S) H cells slots :=
  go_private hd w1 w2 w3 w4 w5 w6 hy hdesc (as := [a1]) (by rw [hlen]; rfl) M hH rfl hL wdt (Nat.le_of_eq hwd) hfr hlo hc hs (fun v H' q => by obtain ⟨rfl, q⟩ := q; exact h H' q)
theorem go_private_1 {a1 : Value} {y' : MethodName} {bytes' : ByteArray} {maxL : Nat} {ret' : Option FieldType} {rm : Room} {i kk idx : Nat} {Cn : String} {fs : List (String × String × Value)} {P : Value → List GCell → Prop} {ps : List FieldType} {rt : Option FieldType} (hd : Dc bytes pc (.invokevirtual idx) 3 nx) (w1 : Jvm.Cond.methodLink y.cls idx y' ∈ W ∨ ∃ host, Jvm.Cond.methodLinkNest y.cls idx y' host ∈ W) (w2 : Jvm.Cond.privateMethod y' ∈ W) (w3 : Jvm.Cond.instantiable y'.cls kk ∈ W) (w4 : Jvm.Cond.instanceMethod y' ∈ W) (w5 : Jvm.Cond.code y' bytes' maxL ret' ∈ W) (w6 : Jvm.Cond.initialized y'.cls ∈ W) (hy : y'.cls ≠ "java/lang/invoke/MethodHandle" ∧ y'.cls ≠ "java/lang/invoke/VarHandle") (hdesc : parseMethodDescriptor y'.desc = some ⟨ps, rt⟩) (hlen : ps.length = 1)
    (M : Met l Z a0 b y' bytes' maxL ret' rm (.ref i :: [a1]) H (fun v H' => ∃ w, v = some w ∧ P w H')) (hH : H[i]? = some (ob Cn fs)) (hL : L.length = nL) (wdt : Nat) (hwd : (S.map Value.category).sum = wdt) (hfr : rm.frames + 1 ≤ R.frames) (hlo : wdt + (maxL + 11) + rm.locals ≤ R.locals) (hc : cells + rm.cells ≤ R.cells) (hs : slots + rm.slots ≤ R.slots)
    (h : ∀ w H', P w H' → Go C nx L (w :: S) H' (cells + rm.cells) (slots + rm.slots)) : Go C pc L (a1 :: .ref i :: S) H cells slots :=
  go_private hd w1 w2 w3 w4 w5 w6 hy hdesc (as := [a1]) (by rw [hlen]; rfl) M hH rfl hL wdt (Nat.le_of_eq hwd) hfr hlo hc hs (fun v H' q => by obtain ⟨w, rfl, q⟩ := q; exact h w H' q)
theorem go_specialV_2 {a1 a2 : Value} {y' : MethodName} {bytes' : ByteArray} {maxL : Nat} {rm : Room} {i idx : Nat} {P : List GCell → Prop} {ps : List FieldType} {rt : Option FieldType} (hn : y'.name = "<init>") (hd : Dc bytes pc (.invokespecial idx) 3 nx) (w1 : Jvm.Cond.methodLink y.cls idx y' ∈ W) (w4 : Jvm.Cond.instanceMethod y' ∈ W) (w5 : Jvm.Cond.code y' bytes' maxL none ∈ W) (w6 : Jvm.Cond.initialized y'.cls ∈ W) (hy : y'.cls ≠ "java/lang/invoke/MethodHandle" ∧ y'.cls ≠ "java/lang/invoke/VarHandle") (hdesc : parseMethodDescriptor y'.desc = some ⟨ps, rt⟩) (hlen : ps.length = 2)
    (M : Met l Z a0 b y' bytes' maxL none rm (.ref i :: [a1, a2]) H (fun v H' => v = none ∧ P H')) (hL : L.length = nL) (wdt : Nat) (hwd : (S.map Value.category).sum = wdt) (hfr : rm.frames + 1 ≤ R.frames) (hlo : wdt + (maxL + 11) + rm.locals ≤ R.locals) (hc : cells + rm.cells ≤ R.cells) (hs : slots + rm.slots ≤ R.slots)
    (h : ∀ H', P H' → Go C nx L S H' (cells + rm.cells) (slots + rm.slots)) : Go C pc L (a2 :: a1 :: .ref i :: S) H cells slots :=
  go_special hn hd w1 w4 w5 w6 hy hdesc (as := [a1, a2]) (by rw [hlen]; rfl) M rfl hL wdt (Nat.le_of_eq hwd) hfr hlo hc hs (fun v H' q => by obtain ⟨rfl, q⟩ := q; exact h H' q)
theorem go_static_2 {a1 a2 : Value} {y' : MethodName} {bytes' : ByteArray} {maxL : Nat} {ret' : Option FieldType} {rm : Room} {idx : Nat} {P : Value → List GCell → Prop} {ps : List FieldType} {rt : Option FieldType} (hd : Dc bytes pc (.invokestatic idx) 3 nx) (w1 : Jvm.Cond.methodLink y.cls idx y' ∈ W) (w2 : Jvm.Cond.static y' ∈ W) (w5 : Jvm.Cond.code y' bytes' maxL ret' ∈ W) (w6 : Jvm.Cond.initialized y'.cls ∈ W) (hy : y'.cls ≠ "java/lang/invoke/MethodHandle" ∧ y'.cls ≠ "java/lang/invoke/VarHandle") (hdesc : parseMethodDescriptor y'.desc = some ⟨ps, rt⟩) (hlen : ps.length = 2)
    (M : Met l Z a0 b y' bytes' maxL ret' rm [a1, a2] H (fun v H' => ∃ w, v = some w ∧ P w H')) (hL : L.length = nL) (wdt : Nat) (hwd : (S.map Value.category).sum = wdt) (hfr : rm.frames + 1 ≤ R.frames) (hlo : wdt + (maxL + 11) + rm.locals ≤ R.locals) (hc : cells + rm.cells ≤ R.cells) (hs : slots + rm.slots ≤ R.slots)
    (h : ∀ w H', P w H' → Go C nx L (w :: S) H' (cells + rm.cells) (slots + rm.slots)) : Go C pc L (a2 :: a1 :: S) H cells slots :=
  go_static hd w1 w2 w5 w6 hy hdesc (as := [a1, a2]) (by rw [hlen]; rfl) M rfl hL wdt (Nat.le_of_eq hwd) hfr hlo hc hs (fun v H' q => by obtain ⟨w, rfl, q⟩ := q; exact h w H' q)
theorem go_private_3 {a1 a2 a3 : Value} {y' : MethodName} {bytes' : ByteArray} {maxL : Nat} {ret' : Option FieldType} {rm : Room} {i kk idx : Nat} {Cn : String} {fs : List (String × String × Value)} {P : Value → List GCell → Prop} {ps : List FieldType} {rt : Option FieldType} (hd : Dc bytes pc (.invokevirtual idx) 3 nx) (w1 : Jvm.Cond.methodLink y.cls idx y' ∈ W ∨ ∃ host, Jvm.Cond.methodLinkNest y.cls idx y' host ∈ W) (w2 : Jvm.Cond.privateMethod y' ∈ W) (w3 : Jvm.Cond.instantiable y'.cls kk ∈ W) (w4 : Jvm.Cond.instanceMethod y' ∈ W) (w5 : Jvm.Cond.code y' bytes' maxL ret' ∈ W) (w6 : Jvm.Cond.initialized y'.cls ∈ W) (hy : y'.cls ≠ "java/lang/invoke/MethodHandle" ∧ y'.cls ≠ "java/lang/invoke/VarHandle") (hdesc : parseMethodDescriptor y'.desc = some ⟨ps, rt⟩) (hlen : ps.length = 3)
    (M : Met l Z a0 b y' bytes' maxL ret' rm (.ref i :: [a1, a2, a3]) H (fun v H' => ∃ w, v = some w ∧ P w H')) (hH : H[i]? = some (ob Cn fs)) (hL : L.length = nL) (wdt : Nat) (hwd : (S.map Value.category).sum = wdt) (hfr : rm.frames + 1 ≤ R.frames) (hlo : wdt + (maxL + 11) + rm.locals ≤ R.locals) (hc : cells + rm.cells ≤ R.cells) (hs : slots + rm.slots ≤ R.slots)
    (h : ∀ w H', P w H' → Go C nx L (w :: S) H' (cells + rm.cells) (slots + rm.slots)) : Go C pc L (a3 :: a2 :: a1 :: .ref i :: S) H cells slots :=
  go_private hd w1 w2 w3 w4 w5 w6 hy hdesc (as := [a1, a2, a3]) (by rw [hlen]; rfl) M hH rfl hL wdt (Nat.le_of_eq hwd) hfr hlo hc hs (fun v H' q => by obtain ⟨w, rfl, q⟩ := q; exact h w H' q)
theorem go_specialV_3 {a1 a2 a3 : Value} {y' : MethodName} {bytes' : ByteArray} {maxL : Nat} {rm : Room} {i idx : Nat} {P : List GCell → Prop} {ps : List FieldType} {rt : Option FieldType} (hn : y'.name = "<init>") (hd : Dc bytes pc (.invokespecial idx) 3 nx) (w1 : Jvm.Cond.methodLink y.cls idx y' ∈ W) (w4 : Jvm.Cond.instanceMethod y' ∈ W) (w5 : Jvm.Cond.code y' bytes' maxL none ∈ W) (w6 : Jvm.Cond.initialized y'.cls ∈ W) (hy : y'.cls ≠ "java/lang/invoke/MethodHandle" ∧ y'.cls ≠ "java/lang/invoke/VarHandle") (hdesc : parseMethodDescriptor y'.desc = some ⟨ps, rt⟩) (hlen : ps.length = 3)
    (M : Met l Z a0 b y' bytes' maxL none rm (.ref i :: [a1, a2, a3]) H (fun v H' => v = none ∧ P H')) (hL : L.length = nL) (wdt : Nat) (hwd : (S.map Value.category).sum = wdt) (hfr : rm.frames + 1 ≤ R.frames) (hlo : wdt + (maxL + 11) + rm.locals ≤ R.locals) (hc : cells + rm.cells ≤ R.cells) (hs : slots + rm.slots ≤ R.slots)
    (h : ∀ H', P H' → Go C nx L S H' (cells + rm.cells) (slots + rm.slots)) : Go C pc L (a3 :: a2 :: a1 :: .ref i :: S) H cells slots :=
  go_special hn hd w1 w4 w5 w6 hy hdesc (as := [a1, a2, a3]) (by rw [hlen]; rfl) M rfl hL wdt (Nat.le_of_eq hwd) hfr hlo hc hs (fun v H' q => by obtain ⟨rfl, q⟩ := q; exact h H' q)
theorem go_staticV_3 {a1 a2 a3 : Value} {y' : MethodName} {bytes' : ByteArray} {maxL : Nat} {ret' : Option FieldType} {rm : Room} {idx : Nat} {P : List GCell → Prop} {ps : List FieldType} {rt : Option FieldType} (hd : Dc bytes pc (.invokestatic idx) 3 nx) (w1 : Jvm.Cond.methodLink y.cls idx y' ∈ W) (w2 : Jvm.Cond.static y' ∈ W) (w5 : Jvm.Cond.code y' bytes' maxL ret' ∈ W) (w6 : Jvm.Cond.initialized y'.cls ∈ W) (hy : y'.cls ≠ "java/lang/invoke/MethodHandle" ∧ y'.cls ≠ "java/lang/invoke/VarHandle") (hdesc : parseMethodDescriptor y'.desc = some ⟨ps, rt⟩) (hlen : ps.length = 3)
    (M : Met l Z a0 b y' bytes' maxL ret' rm [a1, a2, a3] H (fun v H' => v = none ∧ P H')) (hL : L.length = nL) (wdt : Nat) (hwd : (S.map Value.category).sum = wdt) (hfr : rm.frames + 1 ≤ R.frames) (hlo : wdt + (maxL + 11) + rm.locals ≤ R.locals) (hc : cells + rm.cells ≤ R.cells) (hs : slots + rm.slots ≤ R.slots)
    (h : ∀ H', P H' → Go C nx L S H' (cells + rm.cells) (slots + rm.slots)) : Go C pc L (a3 :: a2 :: a1 :: S) H cells slots :=
  go_static hd w1 w2 w5 w6 hy hdesc (as := [a1, a2, a3]) (by rw [hlen]; rfl) M rfl hL wdt (Nat.le_of_eq hwd) hfr hlo hc hs (fun v H' q => by obtain ⟨rfl, q⟩ := q; exact h H' q)
theorem go_staticV_4 {a1 a2 a3 a4 : Value} {y' : MethodName} {bytes' : ByteArray} {maxL : Nat} {ret' : Option FieldType} {rm : Room} {idx : Nat} {P : List GCell → Prop} {ps : List FieldType} {rt : Option FieldType} (hd : Dc bytes pc (.invokestatic idx) 3 nx) (w1 : Jvm.Cond.methodLink y.cls idx y' ∈ W) (w2 : Jvm.Cond.static y' ∈ W) (w5 : Jvm.Cond.code y' bytes' maxL ret' ∈ W) (w6 : Jvm.Cond.initialized y'.cls ∈ W) (hy : y'.cls ≠ "java/lang/invoke/MethodHandle" ∧ y'.cls ≠ "java/lang/invoke/VarHandle") (hdesc : parseMethodDescriptor y'.desc = some ⟨ps, rt⟩) (hlen : ps.length = 4)
    (M : Met l Z a0 b y' bytes' maxL ret' rm [a1, a2, a3, a4] H (fun v H' => v = none ∧ P H')) (hL : L.length = nL) (wdt : Nat) (hwd : (S.map Value.category).sum = wdt) (hfr : rm.frames + 1 ≤ R.frames) (hlo : wdt + (maxL + 11) + rm.locals ≤ R.locals) (hc : cells + rm.cells ≤ R.cells) (hs : slots + rm.slots ≤ R.slots)
    (h : ∀ H', P H' → Go C nx L S H' (cells + rm.cells) (slots + rm.slots)) : Go C pc L (a4 :: a3 :: a2 :: a1 :: S) H cells slots :=
  go_static hd w1 w2 w5 w6 hy hdesc (as := [a1, a2, a3, a4]) (by rw [hlen]; rfl) M rfl hL wdt (Nat.le_of_eq hwd) hfr hlo hc hs (fun v H' q => by obtain ⟨rfl, q⟩ := q; exact h H' q)
end Places
end Jvm.GoKit

namespace Jvm.Pilot.@@N@@
open Jvm Jvm.ClassFile Sem Op Lib Jvm.Free Jvm.Stand Jvm.LawKit Jvm.RoadKit Bundle Jvm.GoKit Jvm.Pilot.@@N@@.Jvm.D
theorem e0_0 : Dc code 0 (.iload_n 0) 1 1 := ⟨at_0, rfl⟩
theorem e0_1 : Dc code 1 (.iconst 1) 1 2 := ⟨at_1, rfl⟩
theorem e0_2 : Dc code 2 (.iand) 1 3 := ⟨at_2, rfl⟩
theorem e0_3 : Dc code 3 (.ifCond .eq 7) 3 6 := ⟨at_3, rfl⟩
theorem e0_6 : Dc code 6 (.iconst 1) 1 7 := ⟨at_6, rfl⟩
theorem e0_7 : Dc code 7 (.goto 4) 3 10 := ⟨at_7, rfl⟩
theorem e0_10 : Dc code 10 (.iconst 0) 1 11 := ⟨at_10, rfl⟩
theorem e0_11 : Dc code 11 (.istore 5) 2 13 := ⟨at_11, rfl⟩
theorem e0_13 : Dc code 13 (.iload_n 0) 1 14 := ⟨at_13, rfl⟩
theorem e0_14 : Dc code 14 (.iconst 1) 1 15 := ⟨at_14, rfl⟩
theorem e0_15 : Dc code 15 (.iushr) 1 16 := ⟨at_15, rfl⟩
theorem e0_16 : Dc code 16 (.bipush 9) 2 18 := ⟨at_16, rfl⟩
theorem e0_18 : Dc code 18 (.irem) 1 19 := ⟨at_18, rfl⟩
theorem e0_19 : Dc code 19 (.istore 6) 2 21 := ⟨at_19, rfl⟩
theorem e0_21 : Dc code 21 (.iload_n 1) 1 22 := ⟨at_21, rfl⟩
theorem e0_22 : Dc code 22 (.bipush 15) 2 24 := ⟨at_22, rfl⟩
theorem e0_24 : Dc code 24 (.iand) 1 25 := ⟨at_24, rfl⟩
theorem e0_25 : Dc code 25 (.istore 7) 2 27 := ⟨at_25, rfl⟩
theorem e0_27 : Dc code 27 (.iload_n 1) 1 28 := ⟨at_27, rfl⟩
theorem e0_28 : Dc code 28 (.iconst 4) 1 29 := ⟨at_28, rfl⟩
theorem e0_29 : Dc code 29 (.iushr) 1 30 := ⟨at_29, rfl⟩
theorem e0_30 : Dc code 30 (.bipush 9) 2 32 := ⟨at_30, rfl⟩
theorem e0_32 : Dc code 32 (.irem) 1 33 := ⟨at_32, rfl⟩
theorem e0_33 : Dc code 33 (.istore 8) 2 35 := ⟨at_33, rfl⟩
theorem e0_35 : Dc code 35 (.bipush 50) 2 37 := ⟨at_35, rfl⟩
theorem e0_37 : Dc code 37 (.newarray .byte) 2 39 := ⟨at_37, rfl⟩
theorem e0_39 : Dc code 39 (.astore 9) 2 41 := ⟨at_39, rfl⟩
theorem e0_41 : Dc code 41 (.aload 9) 2 43 := ⟨at_41, rfl⟩
theorem e0_43 : Dc code 43 (.iload 7) 2 45 := ⟨at_43, rfl⟩
theorem e0_45 : Dc code 45 (.bipush 66) 2 47 := ⟨at_45, rfl⟩
theorem e0_47 : Dc code 47 (.bastore) 1 48 := ⟨at_47, rfl⟩
theorem e0_48 : Dc code 48 (.aload 9) 2 50 := ⟨at_48, rfl⟩
theorem e0_50 : Dc code 50 (.iload 7) 2 52 := ⟨at_50, rfl⟩
theorem e0_52 : Dc code 52 (.iconst 1) 1 53 := ⟨at_52, rfl⟩
theorem e0_53 : Dc code 53 (.iadd) 1 54 := ⟨at_53, rfl⟩
theorem e0_54 : Dc code 54 (.bipush 90) 2 56 := ⟨at_54, rfl⟩
theorem e0_56 : Dc code 56 (.bastore) 1 57 := ⟨at_56, rfl⟩
theorem e0_57 : Dc code 57 (.aload 9) 2 59 := ⟨at_57, rfl⟩
theorem e0_59 : Dc code 59 (.iload 7) 2 61 := ⟨at_59, rfl⟩
theorem e0_61 : Dc code 61 (.iconst 2) 1 62 := ⟨at_61, rfl⟩
theorem e0_62 : Dc code 62 (.iadd) 1 63 := ⟨at_62, rfl⟩
theorem e0_63 : Dc code 63 (.bipush 104) 2 65 := ⟨at_63, rfl⟩
theorem e0_65 : Dc code 65 (.bastore) 1 66 := ⟨at_65, rfl⟩
theorem e0_66 : Dc code 66 (.aload 9) 2 68 := ⟨at_66, rfl⟩
theorem e0_68 : Dc code 68 (.iload 7) 2 70 := ⟨at_68, rfl⟩
theorem e0_70 : Dc code 70 (.iconst 3) 1 71 := ⟨at_70, rfl⟩
theorem e0_71 : Dc code 71 (.iadd) 1 72 := ⟨at_71, rfl⟩
theorem e0_72 : Dc code 72 (.bipush 49) 2 74 := ⟨at_72, rfl⟩
theorem e0_74 : Dc code 74 (.iload 6) 2 76 := ⟨at_74, rfl⟩
theorem e0_76 : Dc code 76 (.iadd) 1 77 := ⟨at_76, rfl⟩
theorem e0_77 : Dc code 77 (.i2b) 1 78 := ⟨at_77, rfl⟩
theorem e0_78 : Dc code 78 (.bastore) 1 79 := ⟨at_78, rfl⟩
theorem e0_79 : Dc code 79 (.iload 5) 2 81 := ⟨at_79, rfl⟩
theorem e0_81 : Dc code 81 (.ifCond .eq 229) 3 84 := ⟨at_81, rfl⟩
theorem e0_84 : Dc code 84 (.aload 9) 2 86 := ⟨at_84, rfl⟩
theorem e0_86 : Dc code 86 (.iload 7) 2 88 := ⟨at_86, rfl⟩
theorem e0_88 : Dc code 88 (.iconst 4) 1 89 := ⟨at_88, rfl⟩
theorem e0_89 : Dc code 89 (.iadd) 1 90 := ⟨at_89, rfl⟩
theorem e0_90 : Dc code 90 (.bipush 49) 2 92 := ⟨at_90, rfl⟩
theorem e0_92 : Dc code 92 (.bastore) 1 93 := ⟨at_92, rfl⟩
theorem e0_93 : Dc code 93 (.aload 9) 2 95 := ⟨at_93, rfl⟩
theorem e0_95 : Dc code 95 (.iload 7) 2 97 := ⟨at_95, rfl⟩
theorem e0_97 : Dc code 97 (.iconst 5) 1 98 := ⟨at_97, rfl⟩
theorem e0_98 : Dc code 98 (.iadd) 1 99 := ⟨at_98, rfl⟩
theorem e0_99 : Dc code 99 (.bipush 65) 2 101 := ⟨at_99, rfl⟩
theorem e0_101 : Dc code 101 (.bastore) 1 102 := ⟨at_101, rfl⟩
theorem e0_102 : Dc code 102 (.aload 9) 2 104 := ⟨at_102, rfl⟩
theorem e0_104 : Dc code 104 (.iload 7) 2 106 := ⟨at_104, rfl⟩
theorem e0_106 : Dc code 106 (.bipush 6) 2 108 := ⟨at_106, rfl⟩
theorem e0_108 : Dc code 108 (.iadd) 1 109 := ⟨at_108, rfl⟩
theorem e0_109 : Dc code 109 (.bipush 89) 2 111 := ⟨at_109, rfl⟩
theorem e0_111 : Dc code 111 (.bastore) 1 112 := ⟨at_111, rfl⟩
theorem e0_112 : Dc code 112 (.aload 9) 2 114 := ⟨at_112, rfl⟩
theorem e0_114 : Dc code 114 (.iload 7) 2 116 := ⟨at_114, rfl⟩
theorem e0_116 : Dc code 116 (.bipush 7) 2 118 := ⟨at_116, rfl⟩
theorem e0_118 : Dc code 118 (.iadd) 1 119 := ⟨at_118, rfl⟩
theorem e0_119 : Dc code 119 (.bipush 38) 2 121 := ⟨at_119, rfl⟩
theorem e0_121 : Dc code 121 (.bastore) 1 122 := ⟨at_121, rfl⟩
theorem e0_122 : Dc code 122 (.aload 9) 2 124 := ⟨at_122, rfl⟩
theorem e0_124 : Dc code 124 (.iload 7) 2 126 := ⟨at_124, rfl⟩
theorem e0_126 : Dc code 126 (.bipush 8) 2 128 := ⟨at_126, rfl⟩
theorem e0_128 : Dc code 128 (.iadd) 1 129 := ⟨at_128, rfl⟩
theorem e0_129 : Dc code 129 (.bipush 83) 2 131 := ⟨at_129, rfl⟩
theorem e0_131 : Dc code 131 (.bastore) 1 132 := ⟨at_131, rfl⟩
theorem e0_132 : Dc code 132 (.aload 9) 2 134 := ⟨at_132, rfl⟩
theorem e0_134 : Dc code 134 (.iload 7) 2 136 := ⟨at_134, rfl⟩
theorem e0_136 : Dc code 136 (.bipush 9) 2 138 := ⟨at_136, rfl⟩
theorem e0_138 : Dc code 138 (.iadd) 1 139 := ⟨at_138, rfl⟩
theorem e0_139 : Dc code 139 (.bipush 89) 2 141 := ⟨at_139, rfl⟩
theorem e0_141 : Dc code 141 (.bastore) 1 142 := ⟨at_141, rfl⟩
theorem e0_142 : Dc code 142 (.aload 9) 2 144 := ⟨at_142, rfl⟩
theorem e0_144 : Dc code 144 (.iload 7) 2 146 := ⟨at_144, rfl⟩
theorem e0_146 : Dc code 146 (.bipush 10) 2 148 := ⟨at_146, rfl⟩
theorem e0_148 : Dc code 148 (.iadd) 1 149 := ⟨at_148, rfl⟩
theorem e0_149 : Dc code 149 (.iload_n 2) 1 150 := ⟨at_149, rfl⟩
theorem e0_150 : Dc code 150 (.bipush 24) 2 152 := ⟨at_150, rfl⟩
theorem e0_152 : Dc code 152 (.iushr) 1 153 := ⟨at_152, rfl⟩
theorem e0_153 : Dc code 153 (.i2b) 1 154 := ⟨at_153, rfl⟩
theorem e0_154 : Dc code 154 (.bastore) 1 155 := ⟨at_154, rfl⟩
theorem e0_155 : Dc code 155 (.aload 9) 2 157 := ⟨at_155, rfl⟩
theorem e0_157 : Dc code 157 (.iload 7) 2 159 := ⟨at_157, rfl⟩
theorem e0_159 : Dc code 159 (.bipush 11) 2 161 := ⟨at_159, rfl⟩
theorem e0_161 : Dc code 161 (.iadd) 1 162 := ⟨at_161, rfl⟩
theorem e0_162 : Dc code 162 (.iload_n 2) 1 163 := ⟨at_162, rfl⟩
theorem e0_163 : Dc code 163 (.bipush 16) 2 165 := ⟨at_163, rfl⟩
theorem e0_165 : Dc code 165 (.iushr) 1 166 := ⟨at_165, rfl⟩
theorem e0_166 : Dc code 166 (.i2b) 1 167 := ⟨at_166, rfl⟩
theorem e0_167 : Dc code 167 (.bastore) 1 168 := ⟨at_167, rfl⟩
theorem e0_168 : Dc code 168 (.aload 9) 2 170 := ⟨at_168, rfl⟩
theorem e0_170 : Dc code 170 (.iload 7) 2 172 := ⟨at_170, rfl⟩
theorem e0_172 : Dc code 172 (.bipush 12) 2 174 := ⟨at_172, rfl⟩
theorem e0_174 : Dc code 174 (.iadd) 1 175 := ⟨at_174, rfl⟩
theorem e0_175 : Dc code 175 (.iload_n 2) 1 176 := ⟨at_175, rfl⟩
theorem e0_176 : Dc code 176 (.bipush 8) 2 178 := ⟨at_176, rfl⟩
theorem e0_178 : Dc code 178 (.iushr) 1 179 := ⟨at_178, rfl⟩
theorem e0_179 : Dc code 179 (.i2b) 1 180 := ⟨at_179, rfl⟩
theorem e0_180 : Dc code 180 (.bastore) 1 181 := ⟨at_180, rfl⟩
theorem e0_181 : Dc code 181 (.aload 9) 2 183 := ⟨at_181, rfl⟩
theorem e0_183 : Dc code 183 (.iload 7) 2 185 := ⟨at_183, rfl⟩
theorem e0_185 : Dc code 185 (.bipush 13) 2 187 := ⟨at_185, rfl⟩
theorem e0_187 : Dc code 187 (.iadd) 1 188 := ⟨at_187, rfl⟩
theorem e0_188 : Dc code 188 (.iload_n 2) 1 189 := ⟨at_188, rfl⟩
theorem e0_189 : Dc code 189 (.i2b) 1 190 := ⟨at_189, rfl⟩
theorem e0_190 : Dc code 190 (.bastore) 1 191 := ⟨at_190, rfl⟩
theorem e0_191 : Dc code 191 (.aload 9) 2 193 := ⟨at_191, rfl⟩
theorem e0_193 : Dc code 193 (.iload 7) 2 195 := ⟨at_193, rfl⟩
theorem e0_195 : Dc code 195 (.bipush 14) 2 197 := ⟨at_195, rfl⟩
theorem e0_197 : Dc code 197 (.iadd) 1 198 := ⟨at_197, rfl⟩
theorem e0_198 : Dc code 198 (.iconst 0) 1 199 := ⟨at_198, rfl⟩
theorem e0_199 : Dc code 199 (.bastore) 1 200 := ⟨at_199, rfl⟩
theorem e0_200 : Dc code 200 (.aload 9) 2 202 := ⟨at_200, rfl⟩
theorem e0_202 : Dc code 202 (.iload 7) 2 204 := ⟨at_202, rfl⟩
theorem e0_204 : Dc code 204 (.bipush 15) 2 206 := ⟨at_204, rfl⟩
theorem e0_206 : Dc code 206 (.iadd) 1 207 := ⟨at_206, rfl⟩
theorem e0_207 : Dc code 207 (.iconst 0) 1 208 := ⟨at_207, rfl⟩
theorem e0_208 : Dc code 208 (.bastore) 1 209 := ⟨at_208, rfl⟩
theorem e0_209 : Dc code 209 (.aload 9) 2 211 := ⟨at_209, rfl⟩
theorem e0_211 : Dc code 211 (.iload 7) 2 213 := ⟨at_211, rfl⟩
theorem e0_213 : Dc code 213 (.bipush 16) 2 215 := ⟨at_213, rfl⟩
theorem e0_215 : Dc code 215 (.iadd) 1 216 := ⟨at_215, rfl⟩
theorem e0_216 : Dc code 216 (.iconst 0) 1 217 := ⟨at_216, rfl⟩
theorem e0_217 : Dc code 217 (.bastore) 1 218 := ⟨at_217, rfl⟩
theorem e0_218 : Dc code 218 (.aload 9) 2 220 := ⟨at_218, rfl⟩
theorem e0_220 : Dc code 220 (.iload 7) 2 222 := ⟨at_220, rfl⟩
theorem e0_222 : Dc code 222 (.bipush 17) 2 224 := ⟨at_222, rfl⟩
theorem e0_224 : Dc code 224 (.iadd) 1 225 := ⟨at_224, rfl⟩
theorem e0_225 : Dc code 225 (.bipush 64) 2 227 := ⟨at_225, rfl⟩
theorem e0_227 : Dc code 227 (.bastore) 1 228 := ⟨at_227, rfl⟩
theorem e0_228 : Dc code 228 (.aload 9) 2 230 := ⟨at_228, rfl⟩
theorem e0_230 : Dc code 230 (.iload 7) 2 232 := ⟨at_230, rfl⟩
theorem e0_232 : Dc code 232 (.bipush 18) 2 234 := ⟨at_232, rfl⟩
theorem e0_234 : Dc code 234 (.iadd) 1 235 := ⟨at_234, rfl⟩
theorem e0_235 : Dc code 235 (.iconst 0) 1 236 := ⟨at_235, rfl⟩
theorem e0_236 : Dc code 236 (.bastore) 1 237 := ⟨at_236, rfl⟩
theorem e0_237 : Dc code 237 (.aload 9) 2 239 := ⟨at_237, rfl⟩
theorem e0_239 : Dc code 239 (.iload 7) 2 241 := ⟨at_239, rfl⟩
theorem e0_241 : Dc code 241 (.bipush 19) 2 243 := ⟨at_241, rfl⟩
theorem e0_243 : Dc code 243 (.iadd) 1 244 := ⟨at_243, rfl⟩
theorem e0_244 : Dc code 244 (.bipush 64) 2 246 := ⟨at_244, rfl⟩
theorem e0_246 : Dc code 246 (.bastore) 1 247 := ⟨at_246, rfl⟩
theorem e0_247 : Dc code 247 (.aload 9) 2 249 := ⟨at_247, rfl⟩
theorem e0_249 : Dc code 249 (.iload 7) 2 251 := ⟨at_249, rfl⟩
theorem e0_251 : Dc code 251 (.bipush 20) 2 253 := ⟨at_251, rfl⟩
theorem e0_253 : Dc code 253 (.iadd) 1 254 := ⟨at_253, rfl⟩
theorem e0_254 : Dc code 254 (.iconst 0) 1 255 := ⟨at_254, rfl⟩
theorem e0_255 : Dc code 255 (.bastore) 1 256 := ⟨at_255, rfl⟩
theorem e0_256 : Dc code 256 (.aload 9) 2 258 := ⟨at_256, rfl⟩
theorem e0_258 : Dc code 258 (.iload 7) 2 260 := ⟨at_258, rfl⟩
theorem e0_260 : Dc code 260 (.bipush 21) 2 262 := ⟨at_260, rfl⟩
theorem e0_262 : Dc code 262 (.iadd) 1 263 := ⟨at_262, rfl⟩
theorem e0_263 : Dc code 263 (.bipush 32) 2 265 := ⟨at_263, rfl⟩
theorem e0_265 : Dc code 265 (.bastore) 1 266 := ⟨at_265, rfl⟩
theorem e0_266 : Dc code 266 (.aload 9) 2 268 := ⟨at_266, rfl⟩
theorem e0_268 : Dc code 268 (.iload 7) 2 270 := ⟨at_268, rfl⟩
theorem e0_270 : Dc code 270 (.bipush 22) 2 272 := ⟨at_270, rfl⟩
theorem e0_272 : Dc code 272 (.iadd) 1 273 := ⟨at_272, rfl⟩
theorem e0_273 : Dc code 273 (.iconst 0) 1 274 := ⟨at_273, rfl⟩
theorem e0_274 : Dc code 274 (.bastore) 1 275 := ⟨at_274, rfl⟩
theorem e0_275 : Dc code 275 (.aload 9) 2 277 := ⟨at_275, rfl⟩
theorem e0_277 : Dc code 277 (.iload 7) 2 279 := ⟨at_277, rfl⟩
theorem e0_279 : Dc code 279 (.bipush 23) 2 281 := ⟨at_279, rfl⟩
theorem e0_281 : Dc code 281 (.iadd) 1 282 := ⟨at_281, rfl⟩
theorem e0_282 : Dc code 282 (.bipush 33) 2 284 := ⟨at_282, rfl⟩
theorem e0_284 : Dc code 284 (.bastore) 1 285 := ⟨at_284, rfl⟩
theorem e0_285 : Dc code 285 (.aload 9) 2 287 := ⟨at_285, rfl⟩
theorem e0_287 : Dc code 287 (.iload 7) 2 289 := ⟨at_287, rfl⟩
theorem e0_289 : Dc code 289 (.bipush 24) 2 291 := ⟨at_289, rfl⟩
theorem e0_291 : Dc code 291 (.iadd) 1 292 := ⟨at_291, rfl⟩
theorem e0_292 : Dc code 292 (.iconst 1) 1 293 := ⟨at_292, rfl⟩
theorem e0_293 : Dc code 293 (.bastore) 1 294 := ⟨at_293, rfl⟩
theorem e0_294 : Dc code 294 (.aload 9) 2 296 := ⟨at_294, rfl⟩
theorem e0_296 : Dc code 296 (.iload 7) 2 298 := ⟨at_296, rfl⟩
theorem e0_298 : Dc code 298 (.bipush 25) 2 300 := ⟨at_298, rfl⟩
theorem e0_300 : Dc code 300 (.iadd) 1 301 := ⟨at_300, rfl⟩
theorem e0_301 : Dc code 301 (.iconst 2) 1 302 := ⟨at_301, rfl⟩
theorem e0_302 : Dc code 302 (.bastore) 1 303 := ⟨at_302, rfl⟩
theorem e0_303 : Dc code 303 (.bipush 26) 2 305 := ⟨at_303, rfl⟩
theorem e0_305 : Dc code 305 (.istore 10) 2 307 := ⟨at_305, rfl⟩
theorem e0_307 : Dc code 307 (.goto 101) 3 310 := ⟨at_307, rfl⟩
theorem e0_310 : Dc code 310 (.aload 9) 2 312 := ⟨at_310, rfl⟩
theorem e0_312 : Dc code 312 (.iload 7) 2 314 := ⟨at_312, rfl⟩
theorem e0_314 : Dc code 314 (.iconst 4) 1 315 := ⟨at_314, rfl⟩
theorem e0_315 : Dc code 315 (.iadd) 1 316 := ⟨at_315, rfl⟩
theorem e0_316 : Dc code 316 (.bipush 23) 2 318 := ⟨at_316, rfl⟩
theorem e0_318 : Dc code 318 (.bastore) 1 319 := ⟨at_318, rfl⟩
theorem e0_319 : Dc code 319 (.aload 9) 2 321 := ⟨at_319, rfl⟩
theorem e0_321 : Dc code 321 (.iload 7) 2 323 := ⟨at_321, rfl⟩
theorem e0_323 : Dc code 323 (.iconst 5) 1 324 := ⟨at_323, rfl⟩
theorem e0_324 : Dc code 324 (.iadd) 1 325 := ⟨at_324, rfl⟩
theorem e0_325 : Dc code 325 (.bipush 114) 2 327 := ⟨at_325, rfl⟩
theorem e0_327 : Dc code 327 (.bastore) 1 328 := ⟨at_327, rfl⟩
theorem e0_328 : Dc code 328 (.aload 9) 2 330 := ⟨at_328, rfl⟩
theorem e0_330 : Dc code 330 (.iload 7) 2 332 := ⟨at_330, rfl⟩
theorem e0_332 : Dc code 332 (.bipush 6) 2 334 := ⟨at_332, rfl⟩
theorem e0_334 : Dc code 334 (.iadd) 1 335 := ⟨at_334, rfl⟩
theorem e0_335 : Dc code 335 (.bipush 69) 2 337 := ⟨at_335, rfl⟩
theorem e0_337 : Dc code 337 (.bastore) 1 338 := ⟨at_337, rfl⟩
theorem e0_338 : Dc code 338 (.aload 9) 2 340 := ⟨at_338, rfl⟩
theorem e0_340 : Dc code 340 (.iload 7) 2 342 := ⟨at_340, rfl⟩
theorem e0_342 : Dc code 342 (.bipush 7) 2 344 := ⟨at_342, rfl⟩
theorem e0_344 : Dc code 344 (.iadd) 1 345 := ⟨at_344, rfl⟩
theorem e0_345 : Dc code 345 (.bipush 56) 2 347 := ⟨at_345, rfl⟩
theorem e0_347 : Dc code 347 (.bastore) 1 348 := ⟨at_347, rfl⟩
theorem e0_348 : Dc code 348 (.aload 9) 2 350 := ⟨at_348, rfl⟩
theorem e0_350 : Dc code 350 (.iload 7) 2 352 := ⟨at_350, rfl⟩
theorem e0_352 : Dc code 352 (.bipush 8) 2 354 := ⟨at_352, rfl⟩
theorem e0_354 : Dc code 354 (.iadd) 1 355 := ⟨at_354, rfl⟩
theorem e0_355 : Dc code 355 (.bipush 80) 2 357 := ⟨at_355, rfl⟩
theorem e0_357 : Dc code 357 (.bastore) 1 358 := ⟨at_357, rfl⟩
theorem e0_358 : Dc code 358 (.aload 9) 2 360 := ⟨at_358, rfl⟩
theorem e0_360 : Dc code 360 (.iload 7) 2 362 := ⟨at_360, rfl⟩
theorem e0_362 : Dc code 362 (.bipush 9) 2 364 := ⟨at_362, rfl⟩
theorem e0_364 : Dc code 364 (.iadd) 1 365 := ⟨at_364, rfl⟩
theorem e0_365 : Dc code 365 (.bipush (-112)) 2 367 := ⟨at_365, rfl⟩
theorem e0_367 : Dc code 367 (.bastore) 1 368 := ⟨at_367, rfl⟩
theorem e0_368 : Dc code 368 (.aload 9) 2 370 := ⟨at_368, rfl⟩
theorem e0_370 : Dc code 370 (.iload 7) 2 372 := ⟨at_370, rfl⟩
theorem e0_372 : Dc code 372 (.bipush 10) 2 374 := ⟨at_372, rfl⟩
theorem e0_374 : Dc code 374 (.iadd) 1 375 := ⟨at_374, rfl⟩
theorem e0_375 : Dc code 375 (.iconst 0) 1 376 := ⟨at_375, rfl⟩
theorem e0_376 : Dc code 376 (.bastore) 1 377 := ⟨at_376, rfl⟩
theorem e0_377 : Dc code 377 (.aload 9) 2 379 := ⟨at_377, rfl⟩
theorem e0_379 : Dc code 379 (.iload 7) 2 381 := ⟨at_379, rfl⟩
theorem e0_381 : Dc code 381 (.bipush 11) 2 383 := ⟨at_381, rfl⟩
theorem e0_383 : Dc code 383 (.iadd) 1 384 := ⟨at_383, rfl⟩
theorem e0_384 : Dc code 384 (.iconst 0) 1 385 := ⟨at_384, rfl⟩
theorem e0_385 : Dc code 385 (.bastore) 1 386 := ⟨at_385, rfl⟩
theorem e0_386 : Dc code 386 (.aload 9) 2 388 := ⟨at_386, rfl⟩
theorem e0_388 : Dc code 388 (.iload 7) 2 390 := ⟨at_388, rfl⟩
theorem e0_390 : Dc code 390 (.bipush 12) 2 392 := ⟨at_390, rfl⟩
theorem e0_392 : Dc code 392 (.iadd) 1 393 := ⟨at_392, rfl⟩
theorem e0_393 : Dc code 393 (.iconst 0) 1 394 := ⟨at_393, rfl⟩
theorem e0_394 : Dc code 394 (.bastore) 1 395 := ⟨at_394, rfl⟩
theorem e0_395 : Dc code 395 (.aload 9) 2 397 := ⟨at_395, rfl⟩
theorem e0_397 : Dc code 397 (.iload 7) 2 399 := ⟨at_397, rfl⟩
theorem e0_399 : Dc code 399 (.bipush 13) 2 401 := ⟨at_399, rfl⟩
theorem e0_401 : Dc code 401 (.iadd) 1 402 := ⟨at_401, rfl⟩
theorem e0_402 : Dc code 402 (.iconst 0) 1 403 := ⟨at_402, rfl⟩
theorem e0_403 : Dc code 403 (.bastore) 1 404 := ⟨at_403, rfl⟩
theorem e0_404 : Dc code 404 (.bipush 14) 2 406 := ⟨at_404, rfl⟩
theorem e0_406 : Dc code 406 (.istore 10) 2 408 := ⟨at_406, rfl⟩
theorem e0_408 : Dc code 408 (.iload 7) 2 410 := ⟨at_408, rfl⟩
theorem e0_410 : Dc code 410 (.iload 10) 2 412 := ⟨at_410, rfl⟩
theorem e0_412 : Dc code 412 (.iadd) 1 413 := ⟨at_412, rfl⟩
theorem e0_413 : Dc code 413 (.istore 11) 2 415 := ⟨at_413, rfl⟩
theorem e0_415 : Dc code 415 (.aload 9) 2 417 := ⟨at_415, rfl⟩
theorem e0_417 : Dc code 417 (.iload 11) 2 419 := ⟨at_417, rfl⟩
theorem e0_419 : Dc code 419 (.lload_n 3) 1 420 := ⟨at_419, rfl⟩
theorem e0_420 : Dc code 420 (.l2i) 1 421 := ⟨at_420, rfl⟩
theorem e0_421 : Dc code 421 (.i2b) 1 422 := ⟨at_421, rfl⟩
theorem e0_422 : Dc code 422 (.bastore) 1 423 := ⟨at_422, rfl⟩
theorem e0_423 : Dc code 423 (.aload 9) 2 425 := ⟨at_423, rfl⟩
theorem e0_425 : Dc code 425 (.iload 11) 2 427 := ⟨at_425, rfl⟩
theorem e0_427 : Dc code 427 (.iconst 1) 1 428 := ⟨at_427, rfl⟩
theorem e0_428 : Dc code 428 (.iadd) 1 429 := ⟨at_428, rfl⟩
theorem e0_429 : Dc code 429 (.lload_n 3) 1 430 := ⟨at_429, rfl⟩
theorem e0_430 : Dc code 430 (.bipush 8) 2 432 := ⟨at_430, rfl⟩
theorem e0_432 : Dc code 432 (.lushr) 1 433 := ⟨at_432, rfl⟩
theorem e0_433 : Dc code 433 (.l2i) 1 434 := ⟨at_433, rfl⟩
theorem e0_434 : Dc code 434 (.i2b) 1 435 := ⟨at_434, rfl⟩
theorem e0_435 : Dc code 435 (.bastore) 1 436 := ⟨at_435, rfl⟩
theorem e0_436 : Dc code 436 (.aload 9) 2 438 := ⟨at_436, rfl⟩
theorem e0_438 : Dc code 438 (.iload 11) 2 440 := ⟨at_438, rfl⟩
theorem e0_440 : Dc code 440 (.iconst 2) 1 441 := ⟨at_440, rfl⟩
theorem e0_441 : Dc code 441 (.iadd) 1 442 := ⟨at_441, rfl⟩
theorem e0_442 : Dc code 442 (.lload_n 3) 1 443 := ⟨at_442, rfl⟩
theorem e0_443 : Dc code 443 (.bipush 16) 2 445 := ⟨at_443, rfl⟩
theorem e0_445 : Dc code 445 (.lushr) 1 446 := ⟨at_445, rfl⟩
theorem e0_446 : Dc code 446 (.l2i) 1 447 := ⟨at_446, rfl⟩
theorem e0_447 : Dc code 447 (.i2b) 1 448 := ⟨at_447, rfl⟩
theorem e0_448 : Dc code 448 (.bastore) 1 449 := ⟨at_448, rfl⟩
theorem e0_449 : Dc code 449 (.aload 9) 2 451 := ⟨at_449, rfl⟩
theorem e0_451 : Dc code 451 (.iload 11) 2 453 := ⟨at_451, rfl⟩
theorem e0_453 : Dc code 453 (.iconst 3) 1 454 := ⟨at_453, rfl⟩
theorem e0_454 : Dc code 454 (.iadd) 1 455 := ⟨at_454, rfl⟩
theorem e0_455 : Dc code 455 (.lload_n 3) 1 456 := ⟨at_455, rfl⟩
theorem e0_456 : Dc code 456 (.bipush 24) 2 458 := ⟨at_456, rfl⟩
theorem e0_458 : Dc code 458 (.lushr) 1 459 := ⟨at_458, rfl⟩
theorem e0_459 : Dc code 459 (.l2i) 1 460 := ⟨at_459, rfl⟩
theorem e0_460 : Dc code 460 (.i2b) 1 461 := ⟨at_460, rfl⟩
theorem e0_461 : Dc code 461 (.bastore) 1 462 := ⟨at_461, rfl⟩
theorem e0_462 : Dc code 462 (.aload 9) 2 464 := ⟨at_462, rfl⟩
theorem e0_464 : Dc code 464 (.iload 11) 2 466 := ⟨at_464, rfl⟩
theorem e0_466 : Dc code 466 (.iconst 4) 1 467 := ⟨at_466, rfl⟩
theorem e0_467 : Dc code 467 (.iadd) 1 468 := ⟨at_467, rfl⟩
theorem e0_468 : Dc code 468 (.lload_n 3) 1 469 := ⟨at_468, rfl⟩
theorem e0_469 : Dc code 469 (.bipush 32) 2 471 := ⟨at_469, rfl⟩
theorem e0_471 : Dc code 471 (.lushr) 1 472 := ⟨at_471, rfl⟩
theorem e0_472 : Dc code 472 (.l2i) 1 473 := ⟨at_472, rfl⟩
theorem e0_473 : Dc code 473 (.i2b) 1 474 := ⟨at_473, rfl⟩
theorem e0_474 : Dc code 474 (.bastore) 1 475 := ⟨at_474, rfl⟩
theorem e0_475 : Dc code 475 (.aload 9) 2 477 := ⟨at_475, rfl⟩
theorem e0_477 : Dc code 477 (.iload 11) 2 479 := ⟨at_477, rfl⟩
theorem e0_479 : Dc code 479 (.iconst 5) 1 480 := ⟨at_479, rfl⟩
theorem e0_480 : Dc code 480 (.iadd) 1 481 := ⟨at_480, rfl⟩
theorem e0_481 : Dc code 481 (.lload_n 3) 1 482 := ⟨at_481, rfl⟩
theorem e0_482 : Dc code 482 (.bipush 40) 2 484 := ⟨at_482, rfl⟩
theorem e0_484 : Dc code 484 (.lushr) 1 485 := ⟨at_484, rfl⟩
theorem e0_485 : Dc code 485 (.l2i) 1 486 := ⟨at_485, rfl⟩
theorem e0_486 : Dc code 486 (.i2b) 1 487 := ⟨at_486, rfl⟩
theorem e0_487 : Dc code 487 (.bastore) 1 488 := ⟨at_487, rfl⟩
theorem e0_488 : Dc code 488 (.aload 9) 2 490 := ⟨at_488, rfl⟩
theorem e0_490 : Dc code 490 (.iload 11) 2 492 := ⟨at_490, rfl⟩
theorem e0_492 : Dc code 492 (.bipush 6) 2 494 := ⟨at_492, rfl⟩
theorem e0_494 : Dc code 494 (.iadd) 1 495 := ⟨at_494, rfl⟩
theorem e0_495 : Dc code 495 (.lload_n 3) 1 496 := ⟨at_495, rfl⟩
theorem e0_496 : Dc code 496 (.bipush 48) 2 498 := ⟨at_496, rfl⟩
theorem e0_498 : Dc code 498 (.lushr) 1 499 := ⟨at_498, rfl⟩
theorem e0_499 : Dc code 499 (.l2i) 1 500 := ⟨at_499, rfl⟩
theorem e0_500 : Dc code 500 (.i2b) 1 501 := ⟨at_500, rfl⟩
theorem e0_501 : Dc code 501 (.bastore) 1 502 := ⟨at_501, rfl⟩
theorem e0_502 : Dc code 502 (.aload 9) 2 504 := ⟨at_502, rfl⟩
theorem e0_504 : Dc code 504 (.iload 11) 2 506 := ⟨at_504, rfl⟩
theorem e0_506 : Dc code 506 (.bipush 7) 2 508 := ⟨at_506, rfl⟩
theorem e0_508 : Dc code 508 (.iadd) 1 509 := ⟨at_508, rfl⟩
theorem e0_509 : Dc code 509 (.lload_n 3) 1 510 := ⟨at_509, rfl⟩
theorem e0_510 : Dc code 510 (.bipush 56) 2 512 := ⟨at_510, rfl⟩
theorem e0_512 : Dc code 512 (.lushr) 1 513 := ⟨at_512, rfl⟩
theorem e0_513 : Dc code 513 (.l2i) 1 514 := ⟨at_513, rfl⟩
theorem e0_514 : Dc code 514 (.i2b) 1 515 := ⟨at_514, rfl⟩
theorem e0_515 : Dc code 515 (.bastore) 1 516 := ⟨at_515, rfl⟩
theorem e0_516 : Dc code 516 (.new 7) 3 519 := ⟨at_516, rfl⟩
theorem e0_519 : Dc code 519 (.dup) 1 520 := ⟨at_519, rfl⟩
theorem e0_520 : Dc code 520 (.aload 9) 2 522 := ⟨at_520, rfl⟩
theorem e0_522 : Dc code 522 (.iload 7) 2 524 := ⟨at_522, rfl⟩
theorem e0_524 : Dc code 524 (.iload 10) 2 526 := ⟨at_524, rfl⟩
theorem e0_526 : Dc code 526 (.iload 8) 2 528 := ⟨at_526, rfl⟩
theorem e0_528 : Dc code 528 (.iadd) 1 529 := ⟨at_528, rfl⟩
theorem e0_529 : Dc code 529 (.invokespecial 9) 3 532 := ⟨at_529, rfl⟩
theorem e0_532 : Dc code 532 (.astore 12) 2 534 := ⟨at_532, rfl⟩
theorem e0_534 : Dc code 534 (.iload 5) 2 536 := ⟨at_534, rfl⟩
theorem e0_536 : Dc code 536 (.ifCond .eq 7) 3 539 := ⟨at_536, rfl⟩
theorem e0_539 : Dc code 539 (.iconst 0) 1 540 := ⟨at_539, rfl⟩
theorem e0_540 : Dc code 540 (.goto 5) 3 543 := ⟨at_540, rfl⟩
theorem e0_543 : Dc code 543 (.iload 8) 2 545 := ⟨at_543, rfl⟩
theorem e0_545 : Dc code 545 (.istore 13) 2 547 := ⟨at_545, rfl⟩
theorem e0_547 : Dc code 547 (.aload 12) 2 549 := ⟨at_547, rfl⟩
theorem e0_549 : Dc code 549 (.invokevirtual 12) 3 552 := ⟨at_549, rfl⟩
theorem e0_552 : Dc code 552 (.iload 13) 2 554 := ⟨at_552, rfl⟩
theorem e0_554 : Dc code 554 (.if_icmp .ne 7) 3 557 := ⟨at_554, rfl⟩
theorem e0_557 : Dc code 557 (.iconst 1) 1 558 := ⟨at_557, rfl⟩
theorem e0_558 : Dc code 558 (.goto 4) 3 561 := ⟨at_558, rfl⟩
theorem e0_562 : Dc code 562 (.ireturn) 1 563 := ⟨at_562, rfl⟩
theorem e1_0 : Dc prog_14_method_1_code 0 (.aload_n 0) 1 1 := ⟨by decide +kernel, rfl⟩
theorem e1_1 : Dc prog_14_method_1_code 1 (.invokespecial 1) 3 4 := ⟨by decide +kernel, rfl⟩
theorem e1_4 : Dc prog_14_method_1_code 4 (.aload_n 0) 1 5 := ⟨by decide +kernel, rfl⟩
theorem e1_5 : Dc prog_14_method_1_code 5 (.iconst 0) 1 6 := ⟨by decide +kernel, rfl⟩
theorem e1_6 : Dc prog_14_method_1_code 6 (.newarray .int) 2 8 := ⟨by decide +kernel, rfl⟩
theorem e1_8 : Dc prog_14_method_1_code 8 (.putfield 7) 3 11 := ⟨by decide +kernel, rfl⟩
theorem e1_11 : Dc prog_14_method_1_code 11 (.aload_n 0) 1 12 := ⟨by decide +kernel, rfl⟩
theorem e1_12 : Dc prog_14_method_1_code 12 (.aload_n 1) 1 13 := ⟨by decide +kernel, rfl⟩
theorem e1_13 : Dc prog_14_method_1_code 13 (.putfield 13) 3 16 := ⟨by decide +kernel, rfl⟩
theorem e1_16 : Dc prog_14_method_1_code 16 (.aload_n 0) 1 17 := ⟨by decide +kernel, rfl⟩
theorem e1_17 : Dc prog_14_method_1_code 17 (.iload_n 2) 1 18 := ⟨by decide +kernel, rfl⟩
theorem e1_18 : Dc prog_14_method_1_code 18 (.putfield 17) 3 21 := ⟨by decide +kernel, rfl⟩
theorem e1_21 : Dc prog_14_method_1_code 21 (.aload_n 0) 1 22 := ⟨by decide +kernel, rfl⟩
theorem e1_22 : Dc prog_14_method_1_code 22 (.iload_n 2) 1 23 := ⟨by decide +kernel, rfl⟩
theorem e1_23 : Dc prog_14_method_1_code 23 (.iload_n 3) 1 24 := ⟨by decide +kernel, rfl⟩
theorem e1_24 : Dc prog_14_method_1_code 24 (.iadd) 1 25 := ⟨by decide +kernel, rfl⟩
theorem e1_25 : Dc prog_14_method_1_code 25 (.putfield 21) 3 28 := ⟨by decide +kernel, rfl⟩
theorem e1_28 : Dc prog_14_method_1_code 28 (.aload_n 0) 1 29 := ⟨by decide +kernel, rfl⟩
theorem e1_29 : Dc prog_14_method_1_code 29 (.bipush 8) 2 31 := ⟨by decide +kernel, rfl⟩
theorem e1_31 : Dc prog_14_method_1_code 31 (.invokevirtual 24) 3 34 := ⟨by decide +kernel, rfl⟩
theorem e1_34 : Dc prog_14_method_1_code 34 (.bipush 66) 2 36 := ⟨by decide +kernel, rfl⟩
theorem e1_36 : Dc prog_14_method_1_code 36 (.if_icmp .ne 25) 3 39 := ⟨by decide +kernel, rfl⟩
theorem e1_39 : Dc prog_14_method_1_code 39 (.aload_n 0) 1 40 := ⟨by decide +kernel, rfl⟩
theorem e1_40 : Dc prog_14_method_1_code 40 (.bipush 8) 2 42 := ⟨by decide +kernel, rfl⟩
theorem e1_42 : Dc prog_14_method_1_code 42 (.invokevirtual 24) 3 45 := ⟨by decide +kernel, rfl⟩
theorem e1_45 : Dc prog_14_method_1_code 45 (.bipush 90) 2 47 := ⟨by decide +kernel, rfl⟩
theorem e1_47 : Dc prog_14_method_1_code 47 (.if_icmp .ne 14) 3 50 := ⟨by decide +kernel, rfl⟩
theorem e1_50 : Dc prog_14_method_1_code 50 (.aload_n 0) 1 51 := ⟨by decide +kernel, rfl⟩
theorem e1_51 : Dc prog_14_method_1_code 51 (.bipush 8) 2 53 := ⟨by decide +kernel, rfl⟩
theorem e1_53 : Dc prog_14_method_1_code 53 (.invokevirtual 24) 3 56 := ⟨by decide +kernel, rfl⟩
theorem e1_56 : Dc prog_14_method_1_code 56 (.bipush 104) 2 58 := ⟨by decide +kernel, rfl⟩
theorem e1_58 : Dc prog_14_method_1_code 58 (.if_icmp .eq 13) 3 61 := ⟨by decide +kernel, rfl⟩
theorem e1_71 : Dc prog_14_method_1_code 71 (.aload_n 0) 1 72 := ⟨by decide +kernel, rfl⟩
theorem e1_72 : Dc prog_14_method_1_code 72 (.bipush 8) 2 74 := ⟨by decide +kernel, rfl⟩
theorem e1_74 : Dc prog_14_method_1_code 74 (.invokevirtual 24) 3 77 := ⟨by decide +kernel, rfl⟩
theorem e1_77 : Dc prog_14_method_1_code 77 (.bipush 48) 2 79 := ⟨by decide +kernel, rfl⟩
theorem e1_79 : Dc prog_14_method_1_code 79 (.isub) 1 80 := ⟨by decide +kernel, rfl⟩
theorem e1_80 : Dc prog_14_method_1_code 80 (.istore 4) 2 82 := ⟨by decide +kernel, rfl⟩
theorem e1_82 : Dc prog_14_method_1_code 82 (.iload 4) 2 84 := ⟨by decide +kernel, rfl⟩
theorem e1_84 : Dc prog_14_method_1_code 84 (.iconst 1) 1 85 := ⟨by decide +kernel, rfl⟩
theorem e1_85 : Dc prog_14_method_1_code 85 (.if_icmp .lt 10) 3 88 := ⟨by decide +kernel, rfl⟩
theorem e1_88 : Dc prog_14_method_1_code 88 (.iload 4) 2 90 := ⟨by decide +kernel, rfl⟩
theorem e1_90 : Dc prog_14_method_1_code 90 (.bipush 9) 2 92 := ⟨by decide +kernel, rfl⟩
theorem e1_92 : Dc prog_14_method_1_code 92 (.if_icmp .le 18) 3 95 := ⟨by decide +kernel, rfl⟩
theorem e1_110 : Dc prog_14_method_1_code 110 (.aload_n 0) 1 111 := ⟨by decide +kernel, rfl⟩
theorem e1_111 : Dc prog_14_method_1_code 111 (.iload 4) 2 113 := ⟨by decide +kernel, rfl⟩
theorem e1_113 : Dc prog_14_method_1_code 113 (.ldc 39) 2 115 := ⟨by decide +kernel, rfl⟩
theorem e1_115 : Dc prog_14_method_1_code 115 (.imul) 1 116 := ⟨by decide +kernel, rfl⟩
theorem e1_116 : Dc prog_14_method_1_code 116 (.putfield 40) 3 119 := ⟨by decide +kernel, rfl⟩
theorem e1_119 : Dc prog_14_method_1_code 119 (.aload_n 0) 1 120 := ⟨by decide +kernel, rfl⟩
theorem e1_120 : Dc prog_14_method_1_code 120 (.invokevirtual 43) 3 123 := ⟨by decide +kernel, rfl⟩
theorem e1_123 : Dc prog_14_method_1_code 123 (.return_) 1 124 := ⟨by decide +kernel, rfl⟩
theorem e2_0 : Dc jdk_2022_method_1_code 0 (.aload_n 0) 1 1 := ⟨by decide +kernel, rfl⟩
theorem e2_1 : Dc jdk_2022_method_1_code 1 (.invokespecial 3) 3 4 := ⟨by decide +kernel, rfl⟩
theorem e2_4 : Dc jdk_2022_method_1_code 4 (.return_) 1 5 := ⟨by decide +kernel, rfl⟩
theorem e4_0 : Dc prog_14_method_14_code 0 (.aload_n 0) 1 1 := ⟨by decide +kernel, rfl⟩
theorem e4_1 : Dc prog_14_method_14_code 1 (.iload_n 1) 1 2 := ⟨by decide +kernel, rfl⟩
theorem e4_2 : Dc prog_14_method_14_code 2 (.invokevirtual 183) 3 5 := ⟨by decide +kernel, rfl⟩
theorem e4_5 : Dc prog_14_method_14_code 5 (.aload_n 0) 1 6 := ⟨by decide +kernel, rfl⟩
theorem e4_6 : Dc prog_14_method_14_code 6 (.iload_n 1) 1 7 := ⟨by decide +kernel, rfl⟩
theorem e4_7 : Dc prog_14_method_14_code 7 (.invokevirtual 186) 3 10 := ⟨by decide +kernel, rfl⟩
theorem e4_10 : Dc prog_14_method_14_code 10 (.aload_n 0) 1 11 := ⟨by decide +kernel, rfl⟩
theorem e4_11 : Dc prog_14_method_14_code 11 (.getfield 189) 3 14 := ⟨by decide +kernel, rfl⟩
theorem e4_14 : Dc prog_14_method_14_code 14 (.aload_n 0) 1 15 := ⟨by decide +kernel, rfl⟩
theorem e4_15 : Dc prog_14_method_14_code 15 (.getfield 75) 3 18 := ⟨by decide +kernel, rfl⟩
theorem e4_18 : Dc prog_14_method_14_code 18 (.lushr) 1 19 := ⟨by decide +kernel, rfl⟩
theorem e4_19 : Dc prog_14_method_14_code 19 (.lconst 1) 1 20 := ⟨by decide +kernel, rfl⟩
theorem e4_20 : Dc prog_14_method_14_code 20 (.iload_n 1) 1 21 := ⟨by decide +kernel, rfl⟩
theorem e4_21 : Dc prog_14_method_14_code 21 (.lshl) 1 22 := ⟨by decide +kernel, rfl⟩
theorem e4_22 : Dc prog_14_method_14_code 22 (.lconst 1) 1 23 := ⟨by decide +kernel, rfl⟩
theorem e4_23 : Dc prog_14_method_14_code 23 (.lsub) 1 24 := ⟨by decide +kernel, rfl⟩
theorem e4_24 : Dc prog_14_method_14_code 24 (.land) 1 25 := ⟨by decide +kernel, rfl⟩
theorem e4_25 : Dc prog_14_method_14_code 25 (.l2i) 1 26 := ⟨by decide +kernel, rfl⟩
theorem e4_26 : Dc prog_14_method_14_code 26 (.ireturn) 1 27 := ⟨by decide +kernel, rfl⟩
theorem e5_0 : Dc prog_14_method_16_code 0 (.aload_n 0) 1 1 := ⟨by decide +kernel, rfl⟩
theorem e5_1 : Dc prog_14_method_16_code 1 (.getfield 75) 3 4 := ⟨by decide +kernel, rfl⟩
theorem e5_4 : Dc prog_14_method_16_code 4 (.iload_n 1) 1 5 := ⟨by decide +kernel, rfl⟩
theorem e5_5 : Dc prog_14_method_16_code 5 (.if_icmp .ge 61) 3 8 := ⟨by decide +kernel, rfl⟩
theorem e5_8 : Dc prog_14_method_16_code 8 (.aload_n 0) 1 9 := ⟨by decide +kernel, rfl⟩
theorem e5_9 : Dc prog_14_method_16_code 9 (.getfield 17) 3 12 := ⟨by decide +kernel, rfl⟩
theorem e5_12 : Dc prog_14_method_16_code 12 (.aload_n 0) 1 13 := ⟨by decide +kernel, rfl⟩
theorem e5_13 : Dc prog_14_method_16_code 13 (.getfield 21) 3 16 := ⟨by decide +kernel, rfl⟩
theorem e5_16 : Dc prog_14_method_16_code 16 (.if_icmp .ge 50) 3 19 := ⟨by decide +kernel, rfl⟩
theorem e5_19 : Dc prog_14_method_16_code 19 (.aload_n 0) 1 20 := ⟨by decide +kernel, rfl⟩
theorem e5_20 : Dc prog_14_method_16_code 20 (.aload_n 0) 1 21 := ⟨by decide +kernel, rfl⟩
theorem e5_21 : Dc prog_14_method_16_code 21 (.getfield 189) 3 24 := ⟨by decide +kernel, rfl⟩
theorem e5_24 : Dc prog_14_method_16_code 24 (.bipush 8) 2 26 := ⟨by decide +kernel, rfl⟩
theorem e5_26 : Dc prog_14_method_16_code 26 (.lshl) 1 27 := ⟨by decide +kernel, rfl⟩
theorem e5_27 : Dc prog_14_method_16_code 27 (.aload_n 0) 1 28 := ⟨by decide +kernel, rfl⟩
theorem e5_28 : Dc prog_14_method_16_code 28 (.getfield 13) 3 31 := ⟨by decide +kernel, rfl⟩
theorem e5_31 : Dc prog_14_method_16_code 31 (.aload_n 0) 1 32 := ⟨by decide +kernel, rfl⟩
theorem e5_32 : Dc prog_14_method_16_code 32 (.dup) 1 33 := ⟨by decide +kernel, rfl⟩
theorem e5_33 : Dc prog_14_method_16_code 33 (.getfield 17) 3 36 := ⟨by decide +kernel, rfl⟩
theorem e5_36 : Dc prog_14_method_16_code 36 (.dup_x1) 1 37 := ⟨by decide +kernel, rfl⟩
theorem e5_37 : Dc prog_14_method_16_code 37 (.iconst 1) 1 38 := ⟨by decide +kernel, rfl⟩
theorem e5_38 : Dc prog_14_method_16_code 38 (.iadd) 1 39 := ⟨by decide +kernel, rfl⟩
theorem e5_39 : Dc prog_14_method_16_code 39 (.putfield 17) 3 42 := ⟨by decide +kernel, rfl⟩
theorem e5_42 : Dc prog_14_method_16_code 42 (.baload) 1 43 := ⟨by decide +kernel, rfl⟩
theorem e5_43 : Dc prog_14_method_16_code 43 (.sipush 255) 3 46 := ⟨by decide +kernel, rfl⟩
theorem e5_46 : Dc prog_14_method_16_code 46 (.iand) 1 47 := ⟨by decide +kernel, rfl⟩
theorem e5_47 : Dc prog_14_method_16_code 47 (.i2l) 1 48 := ⟨by decide +kernel, rfl⟩
theorem e5_48 : Dc prog_14_method_16_code 48 (.lor) 1 49 := ⟨by decide +kernel, rfl⟩
theorem e5_49 : Dc prog_14_method_16_code 49 (.putfield 189) 3 52 := ⟨by decide +kernel, rfl⟩
theorem e5_52 : Dc prog_14_method_16_code 52 (.aload_n 0) 1 53 := ⟨by decide +kernel, rfl⟩
theorem e5_53 : Dc prog_14_method_16_code 53 (.dup) 1 54 := ⟨by decide +kernel, rfl⟩
theorem e5_54 : Dc prog_14_method_16_code 54 (.getfield 75) 3 57 := ⟨by decide +kernel, rfl⟩
theorem e5_57 : Dc prog_14_method_16_code 57 (.bipush 8) 2 59 := ⟨by decide +kernel, rfl⟩
theorem e5_59 : Dc prog_14_method_16_code 59 (.iadd) 1 60 := ⟨by decide +kernel, rfl⟩
theorem e5_60 : Dc prog_14_method_16_code 60 (.putfield 75) 3 63 := ⟨by decide +kernel, rfl⟩
theorem e5_63 : Dc prog_14_method_16_code 63 (.goto (-63)) 3 66 := ⟨by decide +kernel, rfl⟩
theorem e5_66 : Dc prog_14_method_16_code 66 (.return_) 1 67 := ⟨by decide +kernel, rfl⟩
theorem e6_0 : Dc prog_14_method_15_code 0 (.aload_n 0) 1 1 := ⟨by decide +kernel, rfl⟩
theorem e6_1 : Dc prog_14_method_15_code 1 (.getfield 75) 3 4 := ⟨by decide +kernel, rfl⟩
theorem e6_4 : Dc prog_14_method_15_code 4 (.iload_n 1) 1 5 := ⟨by decide +kernel, rfl⟩
theorem e6_5 : Dc prog_14_method_15_code 5 (.if_icmp .ge 13) 3 8 := ⟨by decide +kernel, rfl⟩
theorem e6_18 : Dc prog_14_method_15_code 18 (.aload_n 0) 1 19 := ⟨by decide +kernel, rfl⟩
theorem e6_19 : Dc prog_14_method_15_code 19 (.dup) 1 20 := ⟨by decide +kernel, rfl⟩
theorem e6_20 : Dc prog_14_method_15_code 20 (.getfield 75) 3 23 := ⟨by decide +kernel, rfl⟩
theorem e6_23 : Dc prog_14_method_15_code 23 (.iload_n 1) 1 24 := ⟨by decide +kernel, rfl⟩
theorem e6_24 : Dc prog_14_method_15_code 24 (.isub) 1 25 := ⟨by decide +kernel, rfl⟩
theorem e6_25 : Dc prog_14_method_15_code 25 (.putfield 75) 3 28 := ⟨by decide +kernel, rfl⟩
theorem e6_28 : Dc prog_14_method_15_code 28 (.return_) 1 29 := ⟨by decide +kernel, rfl⟩
theorem e7_0 : Dc prog_14_method_7_code 0 (.aload_n 0) 1 1 := ⟨by decide +kernel, rfl⟩
theorem e7_1 : Dc prog_14_method_7_code 1 (.bipush 24) 2 3 := ⟨by decide +kernel, rfl⟩
theorem e7_3 : Dc prog_14_method_7_code 3 (.invokevirtual 24) 3 6 := ⟨by decide +kernel, rfl⟩
theorem e7_6 : Dc prog_14_method_7_code 6 (.i2l) 1 7 := ⟨by decide +kernel, rfl⟩
theorem e7_7 : Dc prog_14_method_7_code 7 (.bipush 24) 2 9 := ⟨by decide +kernel, rfl⟩
theorem e7_9 : Dc prog_14_method_7_code 9 (.lshl) 1 10 := ⟨by decide +kernel, rfl⟩
theorem e7_10 : Dc prog_14_method_7_code 10 (.aload_n 0) 1 11 := ⟨by decide +kernel, rfl⟩
theorem e7_11 : Dc prog_14_method_7_code 11 (.bipush 24) 2 13 := ⟨by decide +kernel, rfl⟩
theorem e7_13 : Dc prog_14_method_7_code 13 (.invokevirtual 24) 3 16 := ⟨by decide +kernel, rfl⟩
theorem e7_16 : Dc prog_14_method_7_code 16 (.i2l) 1 17 := ⟨by decide +kernel, rfl⟩
theorem e7_17 : Dc prog_14_method_7_code 17 (.lor) 1 18 := ⟨by decide +kernel, rfl⟩
theorem e7_18 : Dc prog_14_method_7_code 18 (.lstore_n 1) 1 19 := ⟨by decide +kernel, rfl⟩
theorem e7_19 : Dc prog_14_method_7_code 19 (.lload_n 1) 1 20 := ⟨by decide +kernel, rfl⟩
theorem e7_20 : Dc prog_14_method_7_code 20 (.ldc2_w 105) 3 23 := ⟨by decide +kernel, rfl⟩
theorem e7_23 : Dc prog_14_method_7_code 23 (.lcmp) 1 24 := ⟨by decide +kernel, rfl⟩
theorem e7_24 : Dc prog_14_method_7_code 24 (.ifCond .ne 32) 3 27 := ⟨by decide +kernel, rfl⟩
theorem e7_27 : Dc prog_14_method_7_code 27 (.aload_n 0) 1 28 := ⟨by decide +kernel, rfl⟩
theorem e7_28 : Dc prog_14_method_7_code 28 (.bipush 32) 2 30 := ⟨by decide +kernel, rfl⟩
theorem e7_30 : Dc prog_14_method_7_code 30 (.invokevirtual 24) 3 33 := ⟨by decide +kernel, rfl⟩
theorem e7_33 : Dc prog_14_method_7_code 33 (.aload_n 0) 1 34 := ⟨by decide +kernel, rfl⟩
theorem e7_34 : Dc prog_14_method_7_code 34 (.getfield 102) 3 37 := ⟨by decide +kernel, rfl⟩
theorem e7_37 : Dc prog_14_method_7_code 37 (.if_icmp .eq 13) 3 40 := ⟨by decide +kernel, rfl⟩
theorem e7_50 : Dc prog_14_method_7_code 50 (.aload_n 0) 1 51 := ⟨by decide +kernel, rfl⟩
theorem e7_51 : Dc prog_14_method_7_code 51 (.iconst 1) 1 52 := ⟨by decide +kernel, rfl⟩
theorem e7_52 : Dc prog_14_method_7_code 52 (.putfield 56) 3 55 := ⟨by decide +kernel, rfl⟩
theorem e7_55 : Dc prog_14_method_7_code 55 (.return_) 1 56 := ⟨by decide +kernel, rfl⟩
theorem e7_56 : Dc prog_14_method_7_code 56 (.lload_n 1) 1 57 := ⟨by decide +kernel, rfl⟩
theorem e7_57 : Dc prog_14_method_7_code 57 (.ldc2_w 109) 3 60 := ⟨by decide +kernel, rfl⟩
theorem e7_60 : Dc prog_14_method_7_code 60 (.lcmp) 1 61 := ⟨by decide +kernel, rfl⟩
theorem e7_61 : Dc prog_14_method_7_code 61 (.ifCond .eq 22) 3 64 := ⟨by decide +kernel, rfl⟩
theorem e7_83 : Dc prog_14_method_7_code 83 (.aload_n 0) 1 84 := ⟨by decide +kernel, rfl⟩
theorem e7_84 : Dc prog_14_method_7_code 84 (.dup) 1 85 := ⟨by decide +kernel, rfl⟩
theorem e7_85 : Dc prog_14_method_7_code 85 (.getfield 98) 3 88 := ⟨by decide +kernel, rfl⟩
theorem e7_88 : Dc prog_14_method_7_code 88 (.iconst 1) 1 89 := ⟨by decide +kernel, rfl⟩
theorem e7_89 : Dc prog_14_method_7_code 89 (.iadd) 1 90 := ⟨by decide +kernel, rfl⟩
theorem e7_90 : Dc prog_14_method_7_code 90 (.putfield 98) 3 93 := ⟨by decide +kernel, rfl⟩
theorem e7_93 : Dc prog_14_method_7_code 93 (.aload_n 0) 1 94 := ⟨by decide +kernel, rfl⟩
theorem e7_94 : Dc prog_14_method_7_code 94 (.aload_n 0) 1 95 := ⟨by decide +kernel, rfl⟩
theorem e7_95 : Dc prog_14_method_7_code 95 (.bipush 32) 2 97 := ⟨by decide +kernel, rfl⟩
theorem e7_97 : Dc prog_14_method_7_code 97 (.invokevirtual 24) 3 100 := ⟨by decide +kernel, rfl⟩
theorem e7_100 : Dc prog_14_method_7_code 100 (.putfield 95) 3 103 := ⟨by decide +kernel, rfl⟩
theorem e7_103 : Dc prog_14_method_7_code 103 (.aload_n 0) 1 104 := ⟨by decide +kernel, rfl⟩
theorem e7_104 : Dc prog_14_method_7_code 104 (.iconst 1) 1 105 := ⟨by decide +kernel, rfl⟩
theorem e7_105 : Dc prog_14_method_7_code 105 (.invokevirtual 24) 3 108 := ⟨by decide +kernel, rfl⟩
theorem e7_108 : Dc prog_14_method_7_code 108 (.ifCond .eq 20) 3 111 := ⟨by decide +kernel, rfl⟩
theorem e7_128 : Dc prog_14_method_7_code 128 (.aload_n 0) 1 129 := ⟨by decide +kernel, rfl⟩
theorem e7_129 : Dc prog_14_method_7_code 129 (.bipush 24) 2 131 := ⟨by decide +kernel, rfl⟩
theorem e7_131 : Dc prog_14_method_7_code 131 (.invokevirtual 24) 3 134 := ⟨by decide +kernel, rfl⟩
theorem e7_134 : Dc prog_14_method_7_code 134 (.istore_n 3) 1 135 := ⟨by decide +kernel, rfl⟩
theorem e7_135 : Dc prog_14_method_7_code 135 (.aload_n 0) 1 136 := ⟨by decide +kernel, rfl⟩
theorem e7_136 : Dc prog_14_method_7_code 136 (.invokevirtual 113) 3 139 := ⟨by decide +kernel, rfl⟩
theorem e7_139 : Dc prog_14_method_7_code 139 (.iload_n 3) 1 140 := ⟨by decide +kernel, rfl⟩
theorem e7_140 : Dc prog_14_method_7_code 140 (.aload_n 0) 1 141 := ⟨by decide +kernel, rfl⟩
theorem e7_141 : Dc prog_14_method_7_code 141 (.getfield 66) 3 144 := ⟨by decide +kernel, rfl⟩
theorem e7_144 : Dc prog_14_method_7_code 144 (.if_icmp .lt 25) 3 147 := ⟨by decide +kernel, rfl⟩
theorem e7_169 : Dc prog_14_method_7_code 169 (.aload_n 0) 1 170 := ⟨by decide +kernel, rfl⟩
theorem e7_170 : Dc prog_14_method_7_code 170 (.invokevirtual 119) 3 173 := ⟨by decide +kernel, rfl⟩
theorem e7_173 : Dc prog_14_method_7_code 173 (.aload_n 0) 1 174 := ⟨by decide +kernel, rfl⟩
theorem e7_174 : Dc prog_14_method_7_code 174 (.aload_n 0) 1 175 := ⟨by decide +kernel, rfl⟩
theorem e7_175 : Dc prog_14_method_7_code 175 (.getfield 7) 3 178 := ⟨by decide +kernel, rfl⟩
theorem e7_178 : Dc prog_14_method_7_code 178 (.iload_n 3) 1 179 := ⟨by decide +kernel, rfl⟩
theorem e7_179 : Dc prog_14_method_7_code 179 (.iaload) 1 180 := ⟨by decide +kernel, rfl⟩
theorem e7_180 : Dc prog_14_method_7_code 180 (.bipush 8) 2 182 := ⟨by decide +kernel, rfl⟩
theorem e7_182 : Dc prog_14_method_7_code 182 (.iushr) 1 183 := ⟨by decide +kernel, rfl⟩
theorem e7_183 : Dc prog_14_method_7_code 183 (.putfield 80) 3 186 := ⟨by decide +kernel, rfl⟩
theorem e7_186 : Dc prog_14_method_7_code 186 (.aload_n 0) 1 187 := ⟨by decide +kernel, rfl⟩
theorem e7_187 : Dc prog_14_method_7_code 187 (.iconst 0) 1 188 := ⟨by decide +kernel, rfl⟩
theorem e7_188 : Dc prog_14_method_7_code 188 (.putfield 63) 3 191 := ⟨by decide +kernel, rfl⟩
theorem e7_191 : Dc prog_14_method_7_code 191 (.aload_n 0) 1 192 := ⟨by decide +kernel, rfl⟩
theorem e7_192 : Dc prog_14_method_7_code 192 (.iconst (-1)) 1 193 := ⟨by decide +kernel, rfl⟩
theorem e7_193 : Dc prog_14_method_7_code 193 (.putfield 83) 3 196 := ⟨by decide +kernel, rfl⟩
theorem e7_196 : Dc prog_14_method_7_code 196 (.aload_n 0) 1 197 := ⟨by decide +kernel, rfl⟩
theorem e7_197 : Dc prog_14_method_7_code 197 (.iconst (-1)) 1 198 := ⟨by decide +kernel, rfl⟩
theorem e7_198 : Dc prog_14_method_7_code 198 (.putfield 86) 3 201 := ⟨by decide +kernel, rfl⟩
theorem e7_201 : Dc prog_14_method_7_code 201 (.aload_n 0) 1 202 := ⟨by decide +kernel, rfl⟩
theorem e7_202 : Dc prog_14_method_7_code 202 (.iconst 0) 1 203 := ⟨by decide +kernel, rfl⟩
theorem e7_203 : Dc prog_14_method_7_code 203 (.putfield 89) 3 206 := ⟨by decide +kernel, rfl⟩
theorem e7_206 : Dc prog_14_method_7_code 206 (.aload_n 0) 1 207 := ⟨by decide +kernel, rfl⟩
theorem e7_207 : Dc prog_14_method_7_code 207 (.iconst 0) 1 208 := ⟨by decide +kernel, rfl⟩
theorem e7_208 : Dc prog_14_method_7_code 208 (.putfield 69) 3 211 := ⟨by decide +kernel, rfl⟩
theorem e7_211 : Dc prog_14_method_7_code 211 (.return_) 1 212 := ⟨by decide +kernel, rfl⟩
theorem e8_0 : Dc prog_14_method_4_code 0 (.aload_n 0) 1 1 := ⟨by decide +kernel, rfl⟩
theorem e8_1 : Dc prog_14_method_4_code 1 (.getfield 56) 3 4 := ⟨by decide +kernel, rfl⟩
theorem e8_4 : Dc prog_14_method_4_code 4 (.ifCond .eq 23) 3 7 := ⟨by decide +kernel, rfl⟩
theorem e8_7 : Dc prog_14_method_4_code 7 (.aload_n 0) 1 8 := ⟨by decide +kernel, rfl⟩
theorem e8_8 : Dc prog_14_method_4_code 8 (.getfield 21) 3 11 := ⟨by decide +kernel, rfl⟩
theorem e8_11 : Dc prog_14_method_4_code 11 (.aload_n 0) 1 12 := ⟨by decide +kernel, rfl⟩
theorem e8_12 : Dc prog_14_method_4_code 12 (.getfield 17) 3 15 := ⟨by decide +kernel, rfl⟩
theorem e8_15 : Dc prog_14_method_4_code 15 (.isub) 1 16 := ⟨by decide +kernel, rfl⟩
theorem e8_16 : Dc prog_14_method_4_code 16 (.aload_n 0) 1 17 := ⟨by decide +kernel, rfl⟩
theorem e8_17 : Dc prog_14_method_4_code 17 (.getfield 75) 3 20 := ⟨by decide +kernel, rfl⟩
theorem e8_20 : Dc prog_14_method_4_code 20 (.bipush 8) 2 22 := ⟨by decide +kernel, rfl⟩
theorem e8_22 : Dc prog_14_method_4_code 22 (.idiv) 1 23 := ⟨by decide +kernel, rfl⟩
theorem e8_23 : Dc prog_14_method_4_code 23 (.iadd) 1 24 := ⟨by decide +kernel, rfl⟩
theorem e8_24 : Dc prog_14_method_4_code 24 (.goto 4) 3 27 := ⟨by decide +kernel, rfl⟩
theorem e8_27 : Dc prog_14_method_4_code 27 (.iconst 0) 1 28 := ⟨by decide +kernel, rfl⟩
theorem e8_28 : Dc prog_14_method_4_code 28 (.ireturn) 1 29 := ⟨by decide +kernel, rfl⟩
theorem e9_0 : Dc prog_14_method_8_code 0 (.aload_n 0) 1 1 := ⟨by decide +kernel, rfl⟩
theorem e9_1 : Dc prog_14_method_8_code 1 (.invokevirtual 122) 3 4 := ⟨by decide +kernel, rfl⟩
theorem e9_4 : Dc prog_14_method_8_code 4 (.astore_n 1) 1 5 := ⟨by decide +kernel, rfl⟩
theorem e9_5 : Dc prog_14_method_8_code 5 (.aload_n 1) 1 6 := ⟨by decide +kernel, rfl⟩
theorem e9_6 : Dc prog_14_method_8_code 6 (.arraylength) 1 7 := ⟨by decide +kernel, rfl⟩
theorem e9_7 : Dc prog_14_method_8_code 7 (.iconst 2) 1 8 := ⟨by decide +kernel, rfl⟩
theorem e9_8 : Dc prog_14_method_8_code 8 (.iadd) 1 9 := ⟨by decide +kernel, rfl⟩
theorem e9_9 : Dc prog_14_method_8_code 9 (.istore_n 2) 1 10 := ⟨by decide +kernel, rfl⟩
theorem e9_10 : Dc prog_14_method_8_code 10 (.aload_n 0) 1 11 := ⟨by decide +kernel, rfl⟩
theorem e9_11 : Dc prog_14_method_8_code 11 (.iconst 3) 1 12 := ⟨by decide +kernel, rfl⟩
theorem e9_12 : Dc prog_14_method_8_code 12 (.invokevirtual 24) 3 15 := ⟨by decide +kernel, rfl⟩
theorem e9_15 : Dc prog_14_method_8_code 15 (.istore_n 3) 1 16 := ⟨by decide +kernel, rfl⟩
theorem e9_16 : Dc prog_14_method_8_code 16 (.iload_n 3) 1 17 := ⟨by decide +kernel, rfl⟩
theorem e9_17 : Dc prog_14_method_8_code 17 (.iconst 2) 1 18 := ⟨by decide +kernel, rfl⟩
theorem e9_18 : Dc prog_14_method_8_code 18 (.if_icmp .lt 9) 3 21 := ⟨by decide +kernel, rfl⟩
theorem e9_21 : Dc prog_14_method_8_code 21 (.iload_n 3) 1 22 := ⟨by decide +kernel, rfl⟩
theorem e9_22 : Dc prog_14_method_8_code 22 (.bipush 6) 2 24 := ⟨by decide +kernel, rfl⟩
theorem e9_24 : Dc prog_14_method_8_code 24 (.if_icmp .le 21) 3 27 := ⟨by decide +kernel, rfl⟩
theorem e9_45 : Dc prog_14_method_8_code 45 (.aload_n 0) 1 46 := ⟨by decide +kernel, rfl⟩
theorem e9_46 : Dc prog_14_method_8_code 46 (.iload_n 3) 1 47 := ⟨by decide +kernel, rfl⟩
theorem e9_47 : Dc prog_14_method_8_code 47 (.invokevirtual 129) 3 50 := ⟨by decide +kernel, rfl⟩
theorem e9_50 : Dc prog_14_method_8_code 50 (.astore 4) 2 52 := ⟨by decide +kernel, rfl⟩
theorem e9_52 : Dc prog_14_method_8_code 52 (.iload_n 3) 1 53 := ⟨by decide +kernel, rfl⟩
theorem e9_53 : Dc prog_14_method_8_code 53 (.anewarray 133) 3 56 := ⟨by decide +kernel, rfl⟩
theorem e9_56 : Dc prog_14_method_8_code 56 (.astore 5) 2 58 := ⟨by decide +kernel, rfl⟩
theorem e9_58 : Dc prog_14_method_8_code 58 (.iconst 0) 1 59 := ⟨by decide +kernel, rfl⟩
theorem e9_59 : Dc prog_14_method_8_code 59 (.istore 6) 2 61 := ⟨by decide +kernel, rfl⟩
theorem e9_61 : Dc prog_14_method_8_code 61 (.iload 6) 2 63 := ⟨by decide +kernel, rfl⟩
theorem e9_63 : Dc prog_14_method_8_code 63 (.iload_n 3) 1 64 := ⟨by decide +kernel, rfl⟩
theorem e9_64 : Dc prog_14_method_8_code 64 (.if_icmp .ge 27) 3 67 := ⟨by decide +kernel, rfl⟩
theorem e9_67 : Dc prog_14_method_8_code 67 (.aload 5) 2 69 := ⟨by decide +kernel, rfl⟩
theorem e9_69 : Dc prog_14_method_8_code 69 (.iload 6) 2 71 := ⟨by decide +kernel, rfl⟩
theorem e9_71 : Dc prog_14_method_8_code 71 (.new 133) 3 74 := ⟨by decide +kernel, rfl⟩
theorem e9_74 : Dc prog_14_method_8_code 74 (.dup) 1 75 := ⟨by decide +kernel, rfl⟩
theorem e9_75 : Dc prog_14_method_8_code 75 (.aload_n 0) 1 76 := ⟨by decide +kernel, rfl⟩
theorem e9_76 : Dc prog_14_method_8_code 76 (.aload_n 0) 1 77 := ⟨by decide +kernel, rfl⟩
theorem e9_77 : Dc prog_14_method_8_code 77 (.iload_n 2) 1 78 := ⟨by decide +kernel, rfl⟩
theorem e9_78 : Dc prog_14_method_8_code 78 (.invokevirtual 135) 3 81 := ⟨by decide +kernel, rfl⟩
theorem e9_81 : Dc prog_14_method_8_code 81 (.invokespecial 139) 3 84 := ⟨by decide +kernel, rfl⟩
theorem e9_84 : Dc prog_14_method_8_code 84 (.aastore) 1 85 := ⟨by decide +kernel, rfl⟩
theorem e9_85 : Dc prog_14_method_8_code 85 (.iinc 6 1) 3 88 := ⟨by decide +kernel, rfl⟩
theorem e9_88 : Dc prog_14_method_8_code 88 (.goto (-27)) 3 91 := ⟨by decide +kernel, rfl⟩
theorem e9_91 : Dc prog_14_method_8_code 91 (.iload_n 2) 1 92 := ⟨by decide +kernel, rfl⟩
theorem e9_92 : Dc prog_14_method_8_code 92 (.iconst 1) 1 93 := ⟨by decide +kernel, rfl⟩
theorem e9_93 : Dc prog_14_method_8_code 93 (.isub) 1 94 := ⟨by decide +kernel, rfl⟩
theorem e9_94 : Dc prog_14_method_8_code 94 (.istore 6) 2 96 := ⟨by decide +kernel, rfl⟩
theorem e9_96 : Dc prog_14_method_8_code 96 (.aload_n 1) 1 97 := ⟨by decide +kernel, rfl⟩
theorem e9_97 : Dc prog_14_method_8_code 97 (.arraylength) 1 98 := ⟨by decide +kernel, rfl⟩
theorem e9_98 : Dc prog_14_method_8_code 98 (.newarray .int) 2 100 := ⟨by decide +kernel, rfl⟩
theorem e9_100 : Dc prog_14_method_8_code 100 (.astore 7) 2 102 := ⟨by decide +kernel, rfl⟩
theorem e9_102 : Dc prog_14_method_8_code 102 (.iconst 0) 1 103 := ⟨by decide +kernel, rfl⟩
theorem e9_103 : Dc prog_14_method_8_code 103 (.istore 8) 2 105 := ⟨by decide +kernel, rfl⟩
theorem e9_105 : Dc prog_14_method_8_code 105 (.iload 8) 2 107 := ⟨by decide +kernel, rfl⟩
theorem e9_107 : Dc prog_14_method_8_code 107 (.aload 7) 2 109 := ⟨by decide +kernel, rfl⟩
theorem e9_109 : Dc prog_14_method_8_code 109 (.arraylength) 1 110 := ⟨by decide +kernel, rfl⟩
theorem e9_110 : Dc prog_14_method_8_code 110 (.if_icmp .ge 16) 3 113 := ⟨by decide +kernel, rfl⟩
theorem e9_113 : Dc prog_14_method_8_code 113 (.aload 7) 2 115 := ⟨by decide +kernel, rfl⟩
theorem e9_115 : Dc prog_14_method_8_code 115 (.iload 8) 2 117 := ⟨by decide +kernel, rfl⟩
theorem e9_117 : Dc prog_14_method_8_code 117 (.iload 8) 2 119 := ⟨by decide +kernel, rfl⟩
theorem e9_119 : Dc prog_14_method_8_code 119 (.iastore) 1 120 := ⟨by decide +kernel, rfl⟩
theorem e9_120 : Dc prog_14_method_8_code 120 (.iinc 8 1) 3 123 := ⟨by decide +kernel, rfl⟩
theorem e9_123 : Dc prog_14_method_8_code 123 (.goto (-18)) 3 126 := ⟨by decide +kernel, rfl⟩
theorem e9_126 : Dc prog_14_method_8_code 126 (.iconst 0) 1 127 := ⟨by decide +kernel, rfl⟩
theorem e9_127 : Dc prog_14_method_8_code 127 (.istore 8) 2 129 := ⟨by decide +kernel, rfl⟩
theorem e9_129 : Dc prog_14_method_8_code 129 (.iconst 0) 1 130 := ⟨by decide +kernel, rfl⟩
theorem e9_130 : Dc prog_14_method_8_code 130 (.istore 9) 2 132 := ⟨by decide +kernel, rfl⟩
theorem e9_132 : Dc prog_14_method_8_code 132 (.iconst 1) 1 133 := ⟨by decide +kernel, rfl⟩
theorem e9_133 : Dc prog_14_method_8_code 133 (.istore 10) 2 135 := ⟨by decide +kernel, rfl⟩
theorem e9_135 : Dc prog_14_method_8_code 135 (.iconst (-1)) 1 136 := ⟨by decide +kernel, rfl⟩
theorem e9_136 : Dc prog_14_method_8_code 136 (.istore 11) 2 138 := ⟨by decide +kernel, rfl⟩
theorem e9_138 : Dc prog_14_method_8_code 138 (.aconst_null) 1 139 := ⟨by decide +kernel, rfl⟩
theorem e9_139 : Dc prog_14_method_8_code 139 (.astore 12) 2 141 := ⟨by decide +kernel, rfl⟩
theorem e9_141 : Dc prog_14_method_8_code 141 (.iconst 0) 1 142 := ⟨by decide +kernel, rfl⟩
theorem e9_142 : Dc prog_14_method_8_code 142 (.istore 13) 2 144 := ⟨by decide +kernel, rfl⟩
theorem e9_144 : Dc prog_14_method_8_code 144 (.iload 13) 2 146 := ⟨by decide +kernel, rfl⟩
theorem e9_146 : Dc prog_14_method_8_code 146 (.bipush 50) 2 148 := ⟨by decide +kernel, rfl⟩
theorem e9_148 : Dc prog_14_method_8_code 148 (.irem) 1 149 := ⟨by decide +kernel, rfl⟩
theorem e9_149 : Dc prog_14_method_8_code 149 (.ifCond .ne 41) 3 152 := ⟨by decide +kernel, rfl⟩
theorem e9_152 : Dc prog_14_method_8_code 152 (.iinc 11 1) 3 155 := ⟨by decide +kernel, rfl⟩
theorem e9_155 : Dc prog_14_method_8_code 155 (.iload 11) 2 157 := ⟨by decide +kernel, rfl⟩
theorem e9_157 : Dc prog_14_method_8_code 157 (.aload 4) 2 159 := ⟨by decide +kernel, rfl⟩
theorem e9_159 : Dc prog_14_method_8_code 159 (.arraylength) 1 160 := ⟨by decide +kernel, rfl⟩
theorem e9_160 : Dc prog_14_method_8_code 160 (.if_icmp .ne 20) 3 163 := ⟨by decide +kernel, rfl⟩
theorem e9_180 : Dc prog_14_method_8_code 180 (.aload 5) 2 182 := ⟨by decide +kernel, rfl⟩
theorem e9_182 : Dc prog_14_method_8_code 182 (.aload 4) 2 184 := ⟨by decide +kernel, rfl⟩
theorem e9_184 : Dc prog_14_method_8_code 184 (.iload 11) 2 186 := ⟨by decide +kernel, rfl⟩
theorem e9_186 : Dc prog_14_method_8_code 186 (.baload) 1 187 := ⟨by decide +kernel, rfl⟩
theorem e9_187 : Dc prog_14_method_8_code 187 (.aaload) 1 188 := ⟨by decide +kernel, rfl⟩
theorem e9_188 : Dc prog_14_method_8_code 188 (.astore 12) 2 190 := ⟨by decide +kernel, rfl⟩
theorem e9_190 : Dc prog_14_method_8_code 190 (.aload 12) 2 192 := ⟨by decide +kernel, rfl⟩
theorem e9_192 : Dc prog_14_method_8_code 192 (.invokevirtual 143) 3 195 := ⟨by decide +kernel, rfl⟩
theorem e9_195 : Dc prog_14_method_8_code 195 (.istore 14) 2 197 := ⟨by decide +kernel, rfl⟩
theorem e9_197 : Dc prog_14_method_8_code 197 (.iload 14) 2 199 := ⟨by decide +kernel, rfl⟩
theorem e9_199 : Dc prog_14_method_8_code 199 (.ifCond .eq 9) 3 202 := ⟨by decide +kernel, rfl⟩
theorem e9_202 : Dc prog_14_method_8_code 202 (.iload 14) 2 204 := ⟨by decide +kernel, rfl⟩
theorem e9_204 : Dc prog_14_method_8_code 204 (.iconst 1) 1 205 := ⟨by decide +kernel, rfl⟩
theorem e9_205 : Dc prog_14_method_8_code 205 (.if_icmp .ne 48) 3 208 := ⟨by decide +kernel, rfl⟩
theorem e9_208 : Dc prog_14_method_8_code 208 (.iload 10) 2 210 := ⟨by decide +kernel, rfl⟩
theorem e9_210 : Dc prog_14_method_8_code 210 (.aload_n 0) 1 211 := ⟨by decide +kernel, rfl⟩
theorem e9_211 : Dc prog_14_method_8_code 211 (.getfield 40) 3 214 := ⟨by decide +kernel, rfl⟩
theorem e9_214 : Dc prog_14_method_8_code 214 (.if_icmp .le 20) 3 217 := ⟨by decide +kernel, rfl⟩
theorem e9_234 : Dc prog_14_method_8_code 234 (.iload 9) 2 236 := ⟨by decide +kernel, rfl⟩
theorem e9_236 : Dc prog_14_method_8_code 236 (.iload 10) 2 238 := ⟨by decide +kernel, rfl⟩
theorem e9_238 : Dc prog_14_method_8_code 238 (.iload 14) 2 240 := ⟨by decide +kernel, rfl⟩
theorem e9_240 : Dc prog_14_method_8_code 240 (.ishl) 1 241 := ⟨by decide +kernel, rfl⟩
theorem e9_241 : Dc prog_14_method_8_code 241 (.iadd) 1 242 := ⟨by decide +kernel, rfl⟩
theorem e9_242 : Dc prog_14_method_8_code 242 (.istore 9) 2 244 := ⟨by decide +kernel, rfl⟩
theorem e9_244 : Dc prog_14_method_8_code 244 (.iload 10) 2 246 := ⟨by decide +kernel, rfl⟩
theorem e9_246 : Dc prog_14_method_8_code 246 (.iconst 1) 1 247 := ⟨by decide +kernel, rfl⟩
theorem e9_247 : Dc prog_14_method_8_code 247 (.ishl) 1 248 := ⟨by decide +kernel, rfl⟩
theorem e9_248 : Dc prog_14_method_8_code 248 (.istore 10) 2 250 := ⟨by decide +kernel, rfl⟩
theorem e9_250 : Dc prog_14_method_8_code 250 (.goto 83) 3 253 := ⟨by decide +kernel, rfl⟩
theorem e9_253 : Dc prog_14_method_8_code 253 (.iload 9) 2 255 := ⟨by decide +kernel, rfl⟩
theorem e9_255 : Dc prog_14_method_8_code 255 (.ifCond .le 25) 3 258 := ⟨by decide +kernel, rfl⟩
theorem e9_258 : Dc prog_14_method_8_code 258 (.aload_n 0) 1 259 := ⟨by decide +kernel, rfl⟩
theorem e9_259 : Dc prog_14_method_8_code 259 (.aload_n 1) 1 260 := ⟨by decide +kernel, rfl⟩
theorem e9_260 : Dc prog_14_method_8_code 260 (.aload 7) 2 262 := ⟨by decide +kernel, rfl⟩
theorem e9_262 : Dc prog_14_method_8_code 262 (.iconst 0) 1 263 := ⟨by decide +kernel, rfl⟩
theorem e9_263 : Dc prog_14_method_8_code 263 (.iaload) 1 264 := ⟨by decide +kernel, rfl⟩
theorem e9_264 : Dc prog_14_method_8_code 264 (.iaload) 1 265 := ⟨by decide +kernel, rfl⟩
theorem e9_265 : Dc prog_14_method_8_code 265 (.iload 9) 2 267 := ⟨by decide +kernel, rfl⟩
theorem e9_267 : Dc prog_14_method_8_code 267 (.iload 8) 2 269 := ⟨by decide +kernel, rfl⟩
theorem e9_269 : Dc prog_14_method_8_code 269 (.invokevirtual 148) 3 272 := ⟨by decide +kernel, rfl⟩
theorem e9_272 : Dc prog_14_method_8_code 272 (.istore 8) 2 274 := ⟨by decide +kernel, rfl⟩
theorem e9_274 : Dc prog_14_method_8_code 274 (.iconst 0) 1 275 := ⟨by decide +kernel, rfl⟩
theorem e9_275 : Dc prog_14_method_8_code 275 (.istore 9) 2 277 := ⟨by decide +kernel, rfl⟩
theorem e9_277 : Dc prog_14_method_8_code 277 (.iconst 1) 1 278 := ⟨by decide +kernel, rfl⟩
theorem e9_278 : Dc prog_14_method_8_code 278 (.istore 10) 2 280 := ⟨by decide +kernel, rfl⟩
theorem e9_280 : Dc prog_14_method_8_code 280 (.iload 14) 2 282 := ⟨by decide +kernel, rfl⟩
theorem e9_282 : Dc prog_14_method_8_code 282 (.iload 6) 2 284 := ⟨by decide +kernel, rfl⟩
theorem e9_284 : Dc prog_14_method_8_code 284 (.if_icmp .ne 6) 3 287 := ⟨by decide +kernel, rfl⟩
theorem e9_287 : Dc prog_14_method_8_code 287 (.goto 52) 3 290 := ⟨by decide +kernel, rfl⟩
theorem e9_333 : Dc prog_14_method_8_code 333 (.iinc 13 1) 3 336 := ⟨by decide +kernel, rfl⟩
theorem e9_336 : Dc prog_14_method_8_code 336 (.goto (-192)) 3 339 := ⟨by decide +kernel, rfl⟩
theorem e9_339 : Dc prog_14_method_8_code 339 (.aload_n 0) 1 340 := ⟨by decide +kernel, rfl⟩
theorem e9_340 : Dc prog_14_method_8_code 340 (.iload 8) 2 342 := ⟨by decide +kernel, rfl⟩
theorem e9_342 : Dc prog_14_method_8_code 342 (.putfield 66) 3 345 := ⟨by decide +kernel, rfl⟩
theorem e9_345 : Dc prog_14_method_8_code 345 (.return_) 1 346 := ⟨by decide +kernel, rfl⟩
theorem e10_0 : Dc prog_14_method_10_code 0 (.aload_n 0) 1 1 := ⟨by decide +kernel, rfl⟩
theorem e10_1 : Dc prog_14_method_10_code 1 (.bipush 16) 2 3 := ⟨by decide +kernel, rfl⟩
theorem e10_3 : Dc prog_14_method_10_code 3 (.invokevirtual 24) 3 6 := ⟨by decide +kernel, rfl⟩
theorem e10_6 : Dc prog_14_method_10_code 6 (.istore_n 1) 1 7 := ⟨by decide +kernel, rfl⟩
theorem e10_7 : Dc prog_14_method_10_code 7 (.sipush 256) 3 10 := ⟨by decide +kernel, rfl⟩
theorem e10_10 : Dc prog_14_method_10_code 10 (.newarray .int) 2 12 := ⟨by decide +kernel, rfl⟩
theorem e10_12 : Dc prog_14_method_10_code 12 (.astore_n 2) 1 13 := ⟨by decide +kernel, rfl⟩
theorem e10_13 : Dc prog_14_method_10_code 13 (.iconst 0) 1 14 := ⟨by decide +kernel, rfl⟩
theorem e10_14 : Dc prog_14_method_10_code 14 (.istore_n 3) 1 15 := ⟨by decide +kernel, rfl⟩
theorem e10_15 : Dc prog_14_method_10_code 15 (.iconst 0) 1 16 := ⟨by decide +kernel, rfl⟩
theorem e10_16 : Dc prog_14_method_10_code 16 (.istore 4) 2 18 := ⟨by decide +kernel, rfl⟩
theorem e10_18 : Dc prog_14_method_10_code 18 (.iload 4) 2 20 := ⟨by decide +kernel, rfl⟩
theorem e10_20 : Dc prog_14_method_10_code 20 (.bipush 16) 2 22 := ⟨by decide +kernel, rfl⟩
theorem e10_22 : Dc prog_14_method_10_code 22 (.if_icmp .ge 68) 3 25 := ⟨by decide +kernel, rfl⟩
theorem e10_25 : Dc prog_14_method_10_code 25 (.iload_n 1) 1 26 := ⟨by decide +kernel, rfl⟩
theorem e10_26 : Dc prog_14_method_10_code 26 (.ldc 178) 2 28 := ⟨by decide +kernel, rfl⟩
theorem e10_28 : Dc prog_14_method_10_code 28 (.iload 4) 2 30 := ⟨by decide +kernel, rfl⟩
theorem e10_30 : Dc prog_14_method_10_code 30 (.iushr) 1 31 := ⟨by decide +kernel, rfl⟩
theorem e10_31 : Dc prog_14_method_10_code 31 (.iand) 1 32 := ⟨by decide +kernel, rfl⟩
theorem e10_32 : Dc prog_14_method_10_code 32 (.ifCond .eq 52) 3 35 := ⟨by decide +kernel, rfl⟩
theorem e10_35 : Dc prog_14_method_10_code 35 (.aload_n 0) 1 36 := ⟨by decide +kernel, rfl⟩
theorem e10_36 : Dc prog_14_method_10_code 36 (.bipush 16) 2 38 := ⟨by decide +kernel, rfl⟩
theorem e10_38 : Dc prog_14_method_10_code 38 (.invokevirtual 24) 3 41 := ⟨by decide +kernel, rfl⟩
theorem e10_41 : Dc prog_14_method_10_code 41 (.istore 5) 2 43 := ⟨by decide +kernel, rfl⟩
theorem e10_43 : Dc prog_14_method_10_code 43 (.iconst 0) 1 44 := ⟨by decide +kernel, rfl⟩
theorem e10_44 : Dc prog_14_method_10_code 44 (.istore 6) 2 46 := ⟨by decide +kernel, rfl⟩
theorem e10_46 : Dc prog_14_method_10_code 46 (.iload 6) 2 48 := ⟨by decide +kernel, rfl⟩
theorem e10_48 : Dc prog_14_method_10_code 48 (.bipush 16) 2 50 := ⟨by decide +kernel, rfl⟩
theorem e10_50 : Dc prog_14_method_10_code 50 (.if_icmp .ge 34) 3 53 := ⟨by decide +kernel, rfl⟩
theorem e10_53 : Dc prog_14_method_10_code 53 (.iload 5) 2 55 := ⟨by decide +kernel, rfl⟩
theorem e10_55 : Dc prog_14_method_10_code 55 (.ldc 178) 2 57 := ⟨by decide +kernel, rfl⟩
theorem e10_57 : Dc prog_14_method_10_code 57 (.iload 6) 2 59 := ⟨by decide +kernel, rfl⟩
theorem e10_59 : Dc prog_14_method_10_code 59 (.iushr) 1 60 := ⟨by decide +kernel, rfl⟩
theorem e10_60 : Dc prog_14_method_10_code 60 (.iand) 1 61 := ⟨by decide +kernel, rfl⟩
theorem e10_61 : Dc prog_14_method_10_code 61 (.ifCond .eq 17) 3 64 := ⟨by decide +kernel, rfl⟩
theorem e10_64 : Dc prog_14_method_10_code 64 (.aload_n 2) 1 65 := ⟨by decide +kernel, rfl⟩
theorem e10_65 : Dc prog_14_method_10_code 65 (.iload_n 3) 1 66 := ⟨by decide +kernel, rfl⟩
theorem e10_66 : Dc prog_14_method_10_code 66 (.iinc 3 1) 3 69 := ⟨by decide +kernel, rfl⟩
theorem e10_69 : Dc prog_14_method_10_code 69 (.iload 4) 2 71 := ⟨by decide +kernel, rfl⟩
theorem e10_71 : Dc prog_14_method_10_code 71 (.bipush 16) 2 73 := ⟨by decide +kernel, rfl⟩
theorem e10_73 : Dc prog_14_method_10_code 73 (.imul) 1 74 := ⟨by decide +kernel, rfl⟩
theorem e10_74 : Dc prog_14_method_10_code 74 (.iload 6) 2 76 := ⟨by decide +kernel, rfl⟩
theorem e10_76 : Dc prog_14_method_10_code 76 (.iadd) 1 77 := ⟨by decide +kernel, rfl⟩
theorem e10_77 : Dc prog_14_method_10_code 77 (.iastore) 1 78 := ⟨by decide +kernel, rfl⟩
theorem e10_78 : Dc prog_14_method_10_code 78 (.iinc 6 1) 3 81 := ⟨by decide +kernel, rfl⟩
theorem e10_81 : Dc prog_14_method_10_code 81 (.goto (-35)) 3 84 := ⟨by decide +kernel, rfl⟩
theorem e10_84 : Dc prog_14_method_10_code 84 (.iinc 4 1) 3 87 := ⟨by decide +kernel, rfl⟩
theorem e10_87 : Dc prog_14_method_10_code 87 (.goto (-69)) 3 90 := ⟨by decide +kernel, rfl⟩
theorem e10_90 : Dc prog_14_method_10_code 90 (.iload_n 3) 1 91 := ⟨by decide +kernel, rfl⟩
theorem e10_91 : Dc prog_14_method_10_code 91 (.ifCond .ne 20) 3 94 := ⟨by decide +kernel, rfl⟩
theorem e10_111 : Dc prog_14_method_10_code 111 (.aload_n 2) 1 112 := ⟨by decide +kernel, rfl⟩
theorem e10_112 : Dc prog_14_method_10_code 112 (.iload_n 3) 1 113 := ⟨by decide +kernel, rfl⟩
theorem e10_113 : Dc prog_14_method_10_code 113 (.invokestatic 168) 3 116 := ⟨by decide +kernel, rfl⟩
theorem e10_116 : Dc prog_14_method_10_code 116 (.areturn) 1 117 := ⟨by decide +kernel, rfl⟩
theorem e11_0 : Dc jdk_65_method_123_code 0 (.iload_n 1) 1 1 := ⟨by decide +kernel, rfl⟩
theorem e11_1 : Dc jdk_65_method_123_code 1 (.aload_n 0) 1 2 := ⟨by decide +kernel, rfl⟩
theorem e11_2 : Dc jdk_65_method_123_code 2 (.arraylength) 1 3 := ⟨by decide +kernel, rfl⟩
theorem e11_3 : Dc jdk_65_method_123_code 3 (.if_icmp .ne 11) 3 6 := ⟨by decide +kernel, rfl⟩
theorem e11_14 : Dc jdk_65_method_123_code 14 (.iload_n 1) 1 15 := ⟨by decide +kernel, rfl⟩
theorem e11_15 : Dc jdk_65_method_123_code 15 (.newarray .int) 2 17 := ⟨by decide +kernel, rfl⟩
theorem e11_17 : Dc jdk_65_method_123_code 17 (.astore_n 2) 1 18 := ⟨by decide +kernel, rfl⟩
theorem e11_18 : Dc jdk_65_method_123_code 18 (.aload_n 0) 1 19 := ⟨by decide +kernel, rfl⟩
theorem e11_19 : Dc jdk_65_method_123_code 19 (.iconst 0) 1 20 := ⟨by decide +kernel, rfl⟩
theorem e11_20 : Dc jdk_65_method_123_code 20 (.aload_n 2) 1 21 := ⟨by decide +kernel, rfl⟩
theorem e11_21 : Dc jdk_65_method_123_code 21 (.iconst 0) 1 22 := ⟨by decide +kernel, rfl⟩
theorem e11_22 : Dc jdk_65_method_123_code 22 (.aload_n 0) 1 23 := ⟨by decide +kernel, rfl⟩
theorem e11_23 : Dc jdk_65_method_123_code 23 (.arraylength) 1 24 := ⟨by decide +kernel, rfl⟩
theorem e11_24 : Dc jdk_65_method_123_code 24 (.iload_n 1) 1 25 := ⟨by decide +kernel, rfl⟩
theorem e11_25 : Dc jdk_65_method_123_code 25 (.invokestatic 304) 3 28 := ⟨by decide +kernel, rfl⟩
theorem e11_28 : Dc jdk_65_method_123_code 28 (.invokestatic 150) 3 31 := ⟨by decide +kernel, rfl⟩
theorem e11_31 : Dc jdk_65_method_123_code 31 (.aload_n 2) 1 32 := ⟨by decide +kernel, rfl⟩
theorem e11_32 : Dc jdk_65_method_123_code 32 (.areturn) 1 33 := ⟨by decide +kernel, rfl⟩
theorem e12_0 : Dc jdk_29_method_69_code 0 (.iload_n 0) 1 1 := ⟨by decide +kernel, rfl⟩
theorem e12_1 : Dc jdk_29_method_69_code 1 (.iload_n 1) 1 2 := ⟨by decide +kernel, rfl⟩
theorem e12_2 : Dc jdk_29_method_69_code 2 (.if_icmp .gt 7) 3 5 := ⟨by decide +kernel, rfl⟩
theorem e12_5 : Dc jdk_29_method_69_code 5 (.iload_n 0) 1 6 := ⟨by decide +kernel, rfl⟩
theorem e12_6 : Dc jdk_29_method_69_code 6 (.goto 4) 3 9 := ⟨by decide +kernel, rfl⟩
theorem e12_9 : Dc jdk_29_method_69_code 9 (.iload_n 1) 1 10 := ⟨by decide +kernel, rfl⟩
theorem e12_10 : Dc jdk_29_method_69_code 10 (.ireturn) 1 11 := ⟨by decide +kernel, rfl⟩
theorem e13_0 : Dc prog_14_method_11_code 0 (.aload_n 0) 1 1 := ⟨by decide +kernel, rfl⟩
theorem e13_1 : Dc prog_14_method_11_code 1 (.bipush 15) 2 3 := ⟨by decide +kernel, rfl⟩
theorem e13_3 : Dc prog_14_method_11_code 3 (.invokevirtual 24) 3 6 := ⟨by decide +kernel, rfl⟩
theorem e13_6 : Dc prog_14_method_11_code 6 (.istore_n 2) 1 7 := ⟨by decide +kernel, rfl⟩
theorem e13_7 : Dc prog_14_method_11_code 7 (.iload_n 2) 1 8 := ⟨by decide +kernel, rfl⟩
theorem e13_8 : Dc prog_14_method_11_code 8 (.ifCond .ne 20) 3 11 := ⟨by decide +kernel, rfl⟩
theorem e13_28 : Dc prog_14_method_11_code 28 (.iload_n 2) 1 29 := ⟨by decide +kernel, rfl⟩
theorem e13_29 : Dc prog_14_method_11_code 29 (.newarray .byte) 2 31 := ⟨by decide +kernel, rfl⟩
theorem e13_31 : Dc prog_14_method_11_code 31 (.astore_n 3) 1 32 := ⟨by decide +kernel, rfl⟩
theorem e13_32 : Dc prog_14_method_11_code 32 (.iload_n 1) 1 33 := ⟨by decide +kernel, rfl⟩
theorem e13_33 : Dc prog_14_method_11_code 33 (.newarray .byte) 2 35 := ⟨by decide +kernel, rfl⟩
theorem e13_35 : Dc prog_14_method_11_code 35 (.astore 4) 2 37 := ⟨by decide +kernel, rfl⟩
theorem e13_37 : Dc prog_14_method_11_code 37 (.iconst 0) 1 38 := ⟨by decide +kernel, rfl⟩
theorem e13_38 : Dc prog_14_method_11_code 38 (.istore 5) 2 40 := ⟨by decide +kernel, rfl⟩
theorem e13_40 : Dc prog_14_method_11_code 40 (.iload 5) 2 42 := ⟨by decide +kernel, rfl⟩
theorem e13_42 : Dc prog_14_method_11_code 42 (.iload_n 1) 1 43 := ⟨by decide +kernel, rfl⟩
theorem e13_43 : Dc prog_14_method_11_code 43 (.if_icmp .ge 17) 3 46 := ⟨by decide +kernel, rfl⟩
theorem e13_46 : Dc prog_14_method_11_code 46 (.aload 4) 2 48 := ⟨by decide +kernel, rfl⟩
theorem e13_48 : Dc prog_14_method_11_code 48 (.iload 5) 2 50 := ⟨by decide +kernel, rfl⟩
theorem e13_50 : Dc prog_14_method_11_code 50 (.iload 5) 2 52 := ⟨by decide +kernel, rfl⟩
theorem e13_52 : Dc prog_14_method_11_code 52 (.i2b) 1 53 := ⟨by decide +kernel, rfl⟩
theorem e13_53 : Dc prog_14_method_11_code 53 (.bastore) 1 54 := ⟨by decide +kernel, rfl⟩
theorem e13_54 : Dc prog_14_method_11_code 54 (.iinc 5 1) 3 57 := ⟨by decide +kernel, rfl⟩
theorem e13_57 : Dc prog_14_method_11_code 57 (.goto (-17)) 3 60 := ⟨by decide +kernel, rfl⟩
theorem e13_60 : Dc prog_14_method_11_code 60 (.iconst 0) 1 61 := ⟨by decide +kernel, rfl⟩
theorem e13_61 : Dc prog_14_method_11_code 61 (.istore 5) 2 63 := ⟨by decide +kernel, rfl⟩
theorem e13_63 : Dc prog_14_method_11_code 63 (.iload 5) 2 65 := ⟨by decide +kernel, rfl⟩
theorem e13_65 : Dc prog_14_method_11_code 65 (.iload_n 2) 1 66 := ⟨by decide +kernel, rfl⟩
theorem e13_66 : Dc prog_14_method_11_code 66 (.if_icmp .ge 80) 3 69 := ⟨by decide +kernel, rfl⟩
theorem e13_69 : Dc prog_14_method_11_code 69 (.iconst 0) 1 70 := ⟨by decide +kernel, rfl⟩
theorem e13_70 : Dc prog_14_method_11_code 70 (.istore 6) 2 72 := ⟨by decide +kernel, rfl⟩
theorem e13_72 : Dc prog_14_method_11_code 72 (.aload_n 0) 1 73 := ⟨by decide +kernel, rfl⟩
theorem e13_73 : Dc prog_14_method_11_code 73 (.iconst 1) 1 74 := ⟨by decide +kernel, rfl⟩
theorem e13_74 : Dc prog_14_method_11_code 74 (.invokevirtual 24) 3 77 := ⟨by decide +kernel, rfl⟩
theorem e13_77 : Dc prog_14_method_11_code 77 (.iconst 1) 1 78 := ⟨by decide +kernel, rfl⟩
theorem e13_78 : Dc prog_14_method_11_code 78 (.if_icmp .ne 32) 3 81 := ⟨by decide +kernel, rfl⟩
theorem e13_110 : Dc prog_14_method_11_code 110 (.aload 4) 2 112 := ⟨by decide +kernel, rfl⟩
theorem e13_112 : Dc prog_14_method_11_code 112 (.iload 6) 2 114 := ⟨by decide +kernel, rfl⟩
theorem e13_114 : Dc prog_14_method_11_code 114 (.baload) 1 115 := ⟨by decide +kernel, rfl⟩
theorem e13_115 : Dc prog_14_method_11_code 115 (.istore 7) 2 117 := ⟨by decide +kernel, rfl⟩
theorem e13_117 : Dc prog_14_method_11_code 117 (.aload 4) 2 119 := ⟨by decide +kernel, rfl⟩
theorem e13_119 : Dc prog_14_method_11_code 119 (.iconst 0) 1 120 := ⟨by decide +kernel, rfl⟩
theorem e13_120 : Dc prog_14_method_11_code 120 (.aload 4) 2 122 := ⟨by decide +kernel, rfl⟩
theorem e13_122 : Dc prog_14_method_11_code 122 (.iconst 1) 1 123 := ⟨by decide +kernel, rfl⟩
theorem e13_123 : Dc prog_14_method_11_code 123 (.iload 6) 2 125 := ⟨by decide +kernel, rfl⟩
theorem e13_125 : Dc prog_14_method_11_code 125 (.invokestatic 151) 3 128 := ⟨by decide +kernel, rfl⟩
theorem e13_128 : Dc prog_14_method_11_code 128 (.aload 4) 2 130 := ⟨by decide +kernel, rfl⟩
theorem e13_130 : Dc prog_14_method_11_code 130 (.iconst 0) 1 131 := ⟨by decide +kernel, rfl⟩
theorem e13_131 : Dc prog_14_method_11_code 131 (.iload 7) 2 133 := ⟨by decide +kernel, rfl⟩
theorem e13_133 : Dc prog_14_method_11_code 133 (.bastore) 1 134 := ⟨by decide +kernel, rfl⟩
theorem e13_134 : Dc prog_14_method_11_code 134 (.aload_n 3) 1 135 := ⟨by decide +kernel, rfl⟩
theorem e13_135 : Dc prog_14_method_11_code 135 (.iload 5) 2 137 := ⟨by decide +kernel, rfl⟩
theorem e13_137 : Dc prog_14_method_11_code 137 (.iload 7) 2 139 := ⟨by decide +kernel, rfl⟩
theorem e13_139 : Dc prog_14_method_11_code 139 (.bastore) 1 140 := ⟨by decide +kernel, rfl⟩
theorem e13_140 : Dc prog_14_method_11_code 140 (.iinc 5 1) 3 143 := ⟨by decide +kernel, rfl⟩
theorem e13_143 : Dc prog_14_method_11_code 143 (.goto (-80)) 3 146 := ⟨by decide +kernel, rfl⟩
theorem e13_146 : Dc prog_14_method_11_code 146 (.aload_n 3) 1 147 := ⟨by decide +kernel, rfl⟩
theorem e13_147 : Dc prog_14_method_11_code 147 (.areturn) 1 148 := ⟨by decide +kernel, rfl⟩
theorem e14_0 : Dc prog_14_method_12_code 0 (.iload_n 1) 1 1 := ⟨by decide +kernel, rfl⟩
theorem e14_1 : Dc prog_14_method_12_code 1 (.newarray .int) 2 3 := ⟨by decide +kernel, rfl⟩
theorem e14_3 : Dc prog_14_method_12_code 3 (.astore_n 2) 1 4 := ⟨by decide +kernel, rfl⟩
theorem e14_4 : Dc prog_14_method_12_code 4 (.aload_n 0) 1 5 := ⟨by decide +kernel, rfl⟩
theorem e14_5 : Dc prog_14_method_12_code 5 (.iconst 5) 1 6 := ⟨by decide +kernel, rfl⟩
theorem e14_6 : Dc prog_14_method_12_code 6 (.invokevirtual 24) 3 9 := ⟨by decide +kernel, rfl⟩
theorem e14_9 : Dc prog_14_method_12_code 9 (.istore_n 3) 1 10 := ⟨by decide +kernel, rfl⟩
theorem e14_10 : Dc prog_14_method_12_code 10 (.iconst 0) 1 11 := ⟨by decide +kernel, rfl⟩
theorem e14_11 : Dc prog_14_method_12_code 11 (.istore 4) 2 13 := ⟨by decide +kernel, rfl⟩
theorem e14_13 : Dc prog_14_method_12_code 13 (.iload 4) 2 15 := ⟨by decide +kernel, rfl⟩
theorem e14_15 : Dc prog_14_method_12_code 15 (.iload_n 1) 1 16 := ⟨by decide +kernel, rfl⟩
theorem e14_16 : Dc prog_14_method_12_code 16 (.if_icmp .ge 73) 3 19 := ⟨by decide +kernel, rfl⟩
theorem e14_19 : Dc prog_14_method_12_code 19 (.iload_n 3) 1 20 := ⟨by decide +kernel, rfl⟩
theorem e14_20 : Dc prog_14_method_12_code 20 (.iconst 1) 1 21 := ⟨by decide +kernel, rfl⟩
theorem e14_21 : Dc prog_14_method_12_code 21 (.if_icmp .lt 9) 3 24 := ⟨by decide +kernel, rfl⟩
theorem e14_24 : Dc prog_14_method_12_code 24 (.iload_n 3) 1 25 := ⟨by decide +kernel, rfl⟩
theorem e14_25 : Dc prog_14_method_12_code 25 (.bipush 20) 2 27 := ⟨by decide +kernel, rfl⟩
theorem e14_27 : Dc prog_14_method_12_code 27 (.if_icmp .le 21) 3 30 := ⟨by decide +kernel, rfl⟩
theorem e14_48 : Dc prog_14_method_12_code 48 (.aload_n 0) 1 49 := ⟨by decide +kernel, rfl⟩
theorem e14_49 : Dc prog_14_method_12_code 49 (.iconst 1) 1 50 := ⟨by decide +kernel, rfl⟩
theorem e14_50 : Dc prog_14_method_12_code 50 (.invokevirtual 24) 3 53 := ⟨by decide +kernel, rfl⟩
theorem e14_53 : Dc prog_14_method_12_code 53 (.ifCond .ne 6) 3 56 := ⟨by decide +kernel, rfl⟩
theorem e14_56 : Dc prog_14_method_12_code 56 (.goto 22) 3 59 := ⟨by decide +kernel, rfl⟩
theorem e14_78 : Dc prog_14_method_12_code 78 (.aload_n 2) 1 79 := ⟨by decide +kernel, rfl⟩
theorem e14_79 : Dc prog_14_method_12_code 79 (.iload 4) 2 81 := ⟨by decide +kernel, rfl⟩
theorem e14_81 : Dc prog_14_method_12_code 81 (.iload_n 3) 1 82 := ⟨by decide +kernel, rfl⟩
theorem e14_82 : Dc prog_14_method_12_code 82 (.iastore) 1 83 := ⟨by decide +kernel, rfl⟩
theorem e14_83 : Dc prog_14_method_12_code 83 (.iinc 4 1) 3 86 := ⟨by decide +kernel, rfl⟩
theorem e14_86 : Dc prog_14_method_12_code 86 (.goto (-73)) 3 89 := ⟨by decide +kernel, rfl⟩
theorem e14_89 : Dc prog_14_method_12_code 89 (.aload_n 2) 1 90 := ⟨by decide +kernel, rfl⟩
theorem e14_90 : Dc prog_14_method_12_code 90 (.areturn) 1 91 := ⟨by decide +kernel, rfl⟩
theorem e15_0 : Dc prog_15_method_1_code 0 (.aload_n 0) 1 1 := ⟨by decide +kernel, rfl⟩
theorem e15_1 : Dc prog_15_method_1_code 1 (.aload_n 1) 1 2 := ⟨by decide +kernel, rfl⟩
theorem e15_2 : Dc prog_15_method_1_code 2 (.putfield 3) 3 5 := ⟨by decide +kernel, rfl⟩
theorem e15_5 : Dc prog_15_method_1_code 5 (.aload_n 0) 1 6 := ⟨by decide +kernel, rfl⟩
theorem e15_6 : Dc prog_15_method_1_code 6 (.invokespecial 9) 3 9 := ⟨by decide +kernel, rfl⟩
theorem e15_9 : Dc prog_15_method_1_code 9 (.aload_n 0) 1 10 := ⟨by decide +kernel, rfl⟩
theorem e15_10 : Dc prog_15_method_1_code 10 (.sipush 1024) 3 13 := ⟨by decide +kernel, rfl⟩
theorem e15_13 : Dc prog_15_method_1_code 13 (.newarray .int) 2 15 := ⟨by decide +kernel, rfl⟩
theorem e15_15 : Dc prog_15_method_1_code 15 (.putfield 15) 3 18 := ⟨by decide +kernel, rfl⟩
theorem e15_18 : Dc prog_15_method_1_code 18 (.aload_n 0) 1 19 := ⟨by decide +kernel, rfl⟩
theorem e15_19 : Dc prog_15_method_1_code 19 (.bipush 21) 2 21 := ⟨by decide +kernel, rfl⟩
theorem e15_21 : Dc prog_15_method_1_code 21 (.newarray .int) 2 23 := ⟨by decide +kernel, rfl⟩
theorem e15_23 : Dc prog_15_method_1_code 23 (.putfield 19) 3 26 := ⟨by decide +kernel, rfl⟩
theorem e15_26 : Dc prog_15_method_1_code 26 (.aload_n 0) 1 27 := ⟨by decide +kernel, rfl⟩
theorem e15_27 : Dc prog_15_method_1_code 27 (.bipush 21) 2 29 := ⟨by decide +kernel, rfl⟩
theorem e15_29 : Dc prog_15_method_1_code 29 (.newarray .int) 2 31 := ⟨by decide +kernel, rfl⟩
theorem e15_31 : Dc prog_15_method_1_code 31 (.putfield 22) 3 34 := ⟨by decide +kernel, rfl⟩
theorem e15_34 : Dc prog_15_method_1_code 34 (.aload_n 0) 1 35 := ⟨by decide +kernel, rfl⟩
theorem e15_35 : Dc prog_15_method_1_code 35 (.bipush 21) 2 37 := ⟨by decide +kernel, rfl⟩
theorem e15_37 : Dc prog_15_method_1_code 37 (.newarray .int) 2 39 := ⟨by decide +kernel, rfl⟩
theorem e15_39 : Dc prog_15_method_1_code 39 (.putfield 25) 3 42 := ⟨by decide +kernel, rfl⟩
theorem e15_42 : Dc prog_15_method_1_code 42 (.aload_n 2) 1 43 := ⟨by decide +kernel, rfl⟩
theorem e15_43 : Dc prog_15_method_1_code 43 (.astore_n 3) 1 44 := ⟨by decide +kernel, rfl⟩
theorem e15_44 : Dc prog_15_method_1_code 44 (.aload_n 3) 1 45 := ⟨by decide +kernel, rfl⟩
theorem e15_45 : Dc prog_15_method_1_code 45 (.arraylength) 1 46 := ⟨by decide +kernel, rfl⟩
theorem e15_46 : Dc prog_15_method_1_code 46 (.istore 4) 2 48 := ⟨by decide +kernel, rfl⟩
theorem e15_48 : Dc prog_15_method_1_code 48 (.iconst 0) 1 49 := ⟨by decide +kernel, rfl⟩
theorem e15_49 : Dc prog_15_method_1_code 49 (.istore 5) 2 51 := ⟨by decide +kernel, rfl⟩
theorem e15_51 : Dc prog_15_method_1_code 51 (.iload 5) 2 53 := ⟨by decide +kernel, rfl⟩
theorem e15_53 : Dc prog_15_method_1_code 53 (.iload 4) 2 55 := ⟨by decide +kernel, rfl⟩
theorem e15_55 : Dc prog_15_method_1_code 55 (.if_icmp .ge 26) 3 58 := ⟨by decide +kernel, rfl⟩
theorem e15_58 : Dc prog_15_method_1_code 58 (.aload_n 3) 1 59 := ⟨by decide +kernel, rfl⟩
theorem e15_59 : Dc prog_15_method_1_code 59 (.iload 5) 2 61 := ⟨by decide +kernel, rfl⟩
theorem e15_61 : Dc prog_15_method_1_code 61 (.iaload) 1 62 := ⟨by decide +kernel, rfl⟩
theorem e15_62 : Dc prog_15_method_1_code 62 (.istore 6) 2 64 := ⟨by decide +kernel, rfl⟩
theorem e15_64 : Dc prog_15_method_1_code 64 (.aload_n 0) 1 65 := ⟨by decide +kernel, rfl⟩
theorem e15_65 : Dc prog_15_method_1_code 65 (.getfield 22) 3 68 := ⟨by decide +kernel, rfl⟩
theorem e15_68 : Dc prog_15_method_1_code 68 (.iload 6) 2 70 := ⟨by decide +kernel, rfl⟩
theorem e15_70 : Dc prog_15_method_1_code 70 (.dup2) 1 71 := ⟨by decide +kernel, rfl⟩
theorem e15_71 : Dc prog_15_method_1_code 71 (.iaload) 1 72 := ⟨by decide +kernel, rfl⟩
theorem e15_72 : Dc prog_15_method_1_code 72 (.iconst 1) 1 73 := ⟨by decide +kernel, rfl⟩
theorem e15_73 : Dc prog_15_method_1_code 73 (.iadd) 1 74 := ⟨by decide +kernel, rfl⟩
theorem e15_74 : Dc prog_15_method_1_code 74 (.iastore) 1 75 := ⟨by decide +kernel, rfl⟩
theorem e15_75 : Dc prog_15_method_1_code 75 (.iinc 5 1) 3 78 := ⟨by decide +kernel, rfl⟩
theorem e15_78 : Dc prog_15_method_1_code 78 (.goto (-27)) 3 81 := ⟨by decide +kernel, rfl⟩
theorem e15_81 : Dc prog_15_method_1_code 81 (.lconst 1) 1 82 := ⟨by decide +kernel, rfl⟩
theorem e15_82 : Dc prog_15_method_1_code 82 (.lstore_n 3) 1 83 := ⟨by decide +kernel, rfl⟩
theorem e15_83 : Dc prog_15_method_1_code 83 (.iconst 1) 1 84 := ⟨by decide +kernel, rfl⟩
theorem e15_84 : Dc prog_15_method_1_code 84 (.istore 5) 2 86 := ⟨by decide +kernel, rfl⟩
theorem e15_86 : Dc prog_15_method_1_code 86 (.iload 5) 2 88 := ⟨by decide +kernel, rfl⟩
theorem e15_88 : Dc prog_15_method_1_code 88 (.bipush 20) 2 90 := ⟨by decide +kernel, rfl⟩
theorem e15_90 : Dc prog_15_method_1_code 90 (.if_icmp .gt 47) 3 93 := ⟨by decide +kernel, rfl⟩
theorem e15_93 : Dc prog_15_method_1_code 93 (.lload_n 3) 1 94 := ⟨by decide +kernel, rfl⟩
theorem e15_94 : Dc prog_15_method_1_code 94 (.ldc2_w 28) 3 97 := ⟨by decide +kernel, rfl⟩
theorem e15_97 : Dc prog_15_method_1_code 97 (.lmul) 1 98 := ⟨by decide +kernel, rfl⟩
theorem e15_98 : Dc prog_15_method_1_code 98 (.aload_n 0) 1 99 := ⟨by decide +kernel, rfl⟩
theorem e15_99 : Dc prog_15_method_1_code 99 (.getfield 22) 3 102 := ⟨by decide +kernel, rfl⟩
theorem e15_102 : Dc prog_15_method_1_code 102 (.iload 5) 2 104 := ⟨by decide +kernel, rfl⟩
theorem e15_104 : Dc prog_15_method_1_code 104 (.iaload) 1 105 := ⟨by decide +kernel, rfl⟩
theorem e15_105 : Dc prog_15_method_1_code 105 (.i2l) 1 106 := ⟨by decide +kernel, rfl⟩
theorem e15_106 : Dc prog_15_method_1_code 106 (.lsub) 1 107 := ⟨by decide +kernel, rfl⟩
theorem e15_107 : Dc prog_15_method_1_code 107 (.lstore_n 3) 1 108 := ⟨by decide +kernel, rfl⟩
theorem e15_108 : Dc prog_15_method_1_code 108 (.lload_n 3) 1 109 := ⟨by decide +kernel, rfl⟩
theorem e15_109 : Dc prog_15_method_1_code 109 (.lconst 0) 1 110 := ⟨by decide +kernel, rfl⟩
theorem e15_110 : Dc prog_15_method_1_code 110 (.lcmp) 1 111 := ⟨by decide +kernel, rfl⟩
theorem e15_111 : Dc prog_15_method_1_code 111 (.ifCond .ge 20) 3 114 := ⟨by decide +kernel, rfl⟩
theorem e15_131 : Dc prog_15_method_1_code 131 (.iinc 5 1) 3 134 := ⟨by decide +kernel, rfl⟩
theorem e15_134 : Dc prog_15_method_1_code 134 (.goto (-48)) 3 137 := ⟨by decide +kernel, rfl⟩
theorem e15_137 : Dc prog_15_method_1_code 137 (.iconst 0) 1 138 := ⟨by decide +kernel, rfl⟩
theorem e15_138 : Dc prog_15_method_1_code 138 (.istore 5) 2 140 := ⟨by decide +kernel, rfl⟩
theorem e15_140 : Dc prog_15_method_1_code 140 (.iconst 0) 1 141 := ⟨by decide +kernel, rfl⟩
theorem e15_141 : Dc prog_15_method_1_code 141 (.istore 6) 2 143 := ⟨by decide +kernel, rfl⟩
theorem e15_143 : Dc prog_15_method_1_code 143 (.iconst 1) 1 144 := ⟨by decide +kernel, rfl⟩
theorem e15_144 : Dc prog_15_method_1_code 144 (.istore 7) 2 146 := ⟨by decide +kernel, rfl⟩
theorem e15_146 : Dc prog_15_method_1_code 146 (.iload 7) 2 148 := ⟨by decide +kernel, rfl⟩
theorem e15_148 : Dc prog_15_method_1_code 148 (.bipush 20) 2 150 := ⟨by decide +kernel, rfl⟩
theorem e15_150 : Dc prog_15_method_1_code 150 (.if_icmp .gt 55) 3 153 := ⟨by decide +kernel, rfl⟩
theorem e15_153 : Dc prog_15_method_1_code 153 (.iload 5) 2 155 := ⟨by decide +kernel, rfl⟩
theorem e15_155 : Dc prog_15_method_1_code 155 (.aload_n 0) 1 156 := ⟨by decide +kernel, rfl⟩
theorem e15_156 : Dc prog_15_method_1_code 156 (.getfield 22) 3 159 := ⟨by decide +kernel, rfl⟩
theorem e15_159 : Dc prog_15_method_1_code 159 (.iload 7) 2 161 := ⟨by decide +kernel, rfl⟩
theorem e15_161 : Dc prog_15_method_1_code 161 (.iconst 1) 1 162 := ⟨by decide +kernel, rfl⟩
theorem e15_162 : Dc prog_15_method_1_code 162 (.isub) 1 163 := ⟨by decide +kernel, rfl⟩
theorem e15_163 : Dc prog_15_method_1_code 163 (.iaload) 1 164 := ⟨by decide +kernel, rfl⟩
theorem e15_164 : Dc prog_15_method_1_code 164 (.iadd) 1 165 := ⟨by decide +kernel, rfl⟩
theorem e15_165 : Dc prog_15_method_1_code 165 (.iconst 1) 1 166 := ⟨by decide +kernel, rfl⟩
theorem e15_166 : Dc prog_15_method_1_code 166 (.ishl) 1 167 := ⟨by decide +kernel, rfl⟩
theorem e15_167 : Dc prog_15_method_1_code 167 (.istore 5) 2 169 := ⟨by decide +kernel, rfl⟩
theorem e15_169 : Dc prog_15_method_1_code 169 (.aload_n 0) 1 170 := ⟨by decide +kernel, rfl⟩
theorem e15_170 : Dc prog_15_method_1_code 170 (.getfield 19) 3 173 := ⟨by decide +kernel, rfl⟩
theorem e15_173 : Dc prog_15_method_1_code 173 (.iload 7) 2 175 := ⟨by decide +kernel, rfl⟩
theorem e15_175 : Dc prog_15_method_1_code 175 (.iload 5) 2 177 := ⟨by decide +kernel, rfl⟩
theorem e15_177 : Dc prog_15_method_1_code 177 (.iastore) 1 178 := ⟨by decide +kernel, rfl⟩
theorem e15_178 : Dc prog_15_method_1_code 178 (.aload_n 0) 1 179 := ⟨by decide +kernel, rfl⟩
theorem e15_179 : Dc prog_15_method_1_code 179 (.getfield 25) 3 182 := ⟨by decide +kernel, rfl⟩
theorem e15_182 : Dc prog_15_method_1_code 182 (.iload 7) 2 184 := ⟨by decide +kernel, rfl⟩
theorem e15_184 : Dc prog_15_method_1_code 184 (.iload 6) 2 186 := ⟨by decide +kernel, rfl⟩
theorem e15_186 : Dc prog_15_method_1_code 186 (.iastore) 1 187 := ⟨by decide +kernel, rfl⟩
theorem e15_187 : Dc prog_15_method_1_code 187 (.iload 6) 2 189 := ⟨by decide +kernel, rfl⟩
theorem e15_189 : Dc prog_15_method_1_code 189 (.aload_n 0) 1 190 := ⟨by decide +kernel, rfl⟩
theorem e15_190 : Dc prog_15_method_1_code 190 (.getfield 22) 3 193 := ⟨by decide +kernel, rfl⟩
theorem e15_193 : Dc prog_15_method_1_code 193 (.iload 7) 2 195 := ⟨by decide +kernel, rfl⟩
theorem e15_195 : Dc prog_15_method_1_code 195 (.iaload) 1 196 := ⟨by decide +kernel, rfl⟩
theorem e15_196 : Dc prog_15_method_1_code 196 (.iadd) 1 197 := ⟨by decide +kernel, rfl⟩
theorem e15_197 : Dc prog_15_method_1_code 197 (.istore 6) 2 199 := ⟨by decide +kernel, rfl⟩
theorem e15_199 : Dc prog_15_method_1_code 199 (.iinc 7 1) 3 202 := ⟨by decide +kernel, rfl⟩
theorem e15_202 : Dc prog_15_method_1_code 202 (.goto (-56)) 3 205 := ⟨by decide +kernel, rfl⟩
theorem e15_205 : Dc prog_15_method_1_code 205 (.aload_n 0) 1 206 := ⟨by decide +kernel, rfl⟩
theorem e15_206 : Dc prog_15_method_1_code 206 (.aload_n 2) 1 207 := ⟨by decide +kernel, rfl⟩
theorem e15_207 : Dc prog_15_method_1_code 207 (.arraylength) 1 208 := ⟨by decide +kernel, rfl⟩
theorem e15_208 : Dc prog_15_method_1_code 208 (.newarray .int) 2 210 := ⟨by decide +kernel, rfl⟩
theorem e15_210 : Dc prog_15_method_1_code 210 (.putfield 43) 3 213 := ⟨by decide +kernel, rfl⟩
theorem e15_213 : Dc prog_15_method_1_code 213 (.aload_n 0) 1 214 := ⟨by decide +kernel, rfl⟩
theorem e15_214 : Dc prog_15_method_1_code 214 (.getfield 25) 3 217 := ⟨by decide +kernel, rfl⟩
theorem e15_217 : Dc prog_15_method_1_code 217 (.invokevirtual 46) 3 220 := ⟨by decide +kernel, rfl⟩
theorem e15_220 : Dc prog_15_method_1_code 220 (.checkcast 47) 3 223 := ⟨by decide +kernel, rfl⟩
theorem e15_223 : Dc prog_15_method_1_code 223 (.astore 7) 2 225 := ⟨by decide +kernel, rfl⟩
theorem e15_225 : Dc prog_15_method_1_code 225 (.iconst 0) 1 226 := ⟨by decide +kernel, rfl⟩
theorem e15_226 : Dc prog_15_method_1_code 226 (.istore 8) 2 228 := ⟨by decide +kernel, rfl⟩
theorem e15_228 : Dc prog_15_method_1_code 228 (.iload 8) 2 230 := ⟨by decide +kernel, rfl⟩
theorem e15_230 : Dc prog_15_method_1_code 230 (.aload_n 2) 1 231 := ⟨by decide +kernel, rfl⟩
theorem e15_231 : Dc prog_15_method_1_code 231 (.arraylength) 1 232 := ⟨by decide +kernel, rfl⟩
theorem e15_232 : Dc prog_15_method_1_code 232 (.if_icmp .ge 96) 3 235 := ⟨by decide +kernel, rfl⟩
theorem e15_235 : Dc prog_15_method_1_code 235 (.aload_n 2) 1 236 := ⟨by decide +kernel, rfl⟩
theorem e15_236 : Dc prog_15_method_1_code 236 (.iload 8) 2 238 := ⟨by decide +kernel, rfl⟩
theorem e15_238 : Dc prog_15_method_1_code 238 (.iaload) 1 239 := ⟨by decide +kernel, rfl⟩
theorem e15_239 : Dc prog_15_method_1_code 239 (.istore 9) 2 241 := ⟨by decide +kernel, rfl⟩
theorem e15_241 : Dc prog_15_method_1_code 241 (.aload 7) 2 243 := ⟨by decide +kernel, rfl⟩
theorem e15_243 : Dc prog_15_method_1_code 243 (.iload 9) 2 245 := ⟨by decide +kernel, rfl⟩
theorem e15_245 : Dc prog_15_method_1_code 245 (.dup2) 1 246 := ⟨by decide +kernel, rfl⟩
theorem e15_246 : Dc prog_15_method_1_code 246 (.iaload) 1 247 := ⟨by decide +kernel, rfl⟩
theorem e15_247 : Dc prog_15_method_1_code 247 (.dup_x2) 1 248 := ⟨by decide +kernel, rfl⟩
theorem e15_248 : Dc prog_15_method_1_code 248 (.iconst 1) 1 249 := ⟨by decide +kernel, rfl⟩
theorem e15_249 : Dc prog_15_method_1_code 249 (.iadd) 1 250 := ⟨by decide +kernel, rfl⟩
theorem e15_250 : Dc prog_15_method_1_code 250 (.iastore) 1 251 := ⟨by decide +kernel, rfl⟩
theorem e15_251 : Dc prog_15_method_1_code 251 (.istore 10) 2 253 := ⟨by decide +kernel, rfl⟩
theorem e15_253 : Dc prog_15_method_1_code 253 (.aload_n 0) 1 254 := ⟨by decide +kernel, rfl⟩
theorem e15_254 : Dc prog_15_method_1_code 254 (.getfield 43) 3 257 := ⟨by decide +kernel, rfl⟩
theorem e15_257 : Dc prog_15_method_1_code 257 (.iload 10) 2 259 := ⟨by decide +kernel, rfl⟩
theorem e15_259 : Dc prog_15_method_1_code 259 (.iload 8) 2 261 := ⟨by decide +kernel, rfl⟩
theorem e15_261 : Dc prog_15_method_1_code 261 (.iastore) 1 262 := ⟨by decide +kernel, rfl⟩
theorem e15_262 : Dc prog_15_method_1_code 262 (.iload 9) 2 264 := ⟨by decide +kernel, rfl⟩
theorem e15_264 : Dc prog_15_method_1_code 264 (.bipush 10) 2 266 := ⟨by decide +kernel, rfl⟩
theorem e15_266 : Dc prog_15_method_1_code 266 (.if_icmp .gt 56) 3 269 := ⟨by decide +kernel, rfl⟩
theorem e15_269 : Dc prog_15_method_1_code 269 (.bipush 10) 2 271 := ⟨by decide +kernel, rfl⟩
theorem e15_271 : Dc prog_15_method_1_code 271 (.iload 9) 2 273 := ⟨by decide +kernel, rfl⟩
theorem e15_273 : Dc prog_15_method_1_code 273 (.isub) 1 274 := ⟨by decide +kernel, rfl⟩
theorem e15_274 : Dc prog_15_method_1_code 274 (.istore 11) 2 276 := ⟨by decide +kernel, rfl⟩
theorem e15_276 : Dc prog_15_method_1_code 276 (.aload_n 0) 1 277 := ⟨by decide +kernel, rfl⟩
theorem e15_277 : Dc prog_15_method_1_code 277 (.getfield 19) 3 280 := ⟨by decide +kernel, rfl⟩
theorem e15_280 : Dc prog_15_method_1_code 280 (.iload 9) 2 282 := ⟨by decide +kernel, rfl⟩
theorem e15_282 : Dc prog_15_method_1_code 282 (.iaload) 1 283 := ⟨by decide +kernel, rfl⟩
theorem e15_283 : Dc prog_15_method_1_code 283 (.iload 10) 2 285 := ⟨by decide +kernel, rfl⟩
theorem e15_285 : Dc prog_15_method_1_code 285 (.iadd) 1 286 := ⟨by decide +kernel, rfl⟩
theorem e15_286 : Dc prog_15_method_1_code 286 (.aload_n 0) 1 287 := ⟨by decide +kernel, rfl⟩
theorem e15_287 : Dc prog_15_method_1_code 287 (.getfield 25) 3 290 := ⟨by decide +kernel, rfl⟩
theorem e15_290 : Dc prog_15_method_1_code 290 (.iload 9) 2 292 := ⟨by decide +kernel, rfl⟩
theorem e15_292 : Dc prog_15_method_1_code 292 (.iaload) 1 293 := ⟨by decide +kernel, rfl⟩
theorem e15_293 : Dc prog_15_method_1_code 293 (.isub) 1 294 := ⟨by decide +kernel, rfl⟩
theorem e15_294 : Dc prog_15_method_1_code 294 (.iload 11) 2 296 := ⟨by decide +kernel, rfl⟩
theorem e15_296 : Dc prog_15_method_1_code 296 (.ishl) 1 297 := ⟨by decide +kernel, rfl⟩
theorem e15_297 : Dc prog_15_method_1_code 297 (.istore 12) 2 299 := ⟨by decide +kernel, rfl⟩
theorem e15_299 : Dc prog_15_method_1_code 299 (.aload_n 0) 1 300 := ⟨by decide +kernel, rfl⟩
theorem e15_300 : Dc prog_15_method_1_code 300 (.getfield 15) 3 303 := ⟨by decide +kernel, rfl⟩
theorem e15_303 : Dc prog_15_method_1_code 303 (.iload 12) 2 305 := ⟨by decide +kernel, rfl⟩
theorem e15_305 : Dc prog_15_method_1_code 305 (.iload 12) 2 307 := ⟨by decide +kernel, rfl⟩
theorem e15_307 : Dc prog_15_method_1_code 307 (.iconst 1) 1 308 := ⟨by decide +kernel, rfl⟩
theorem e15_308 : Dc prog_15_method_1_code 308 (.iload 11) 2 310 := ⟨by decide +kernel, rfl⟩
theorem e15_310 : Dc prog_15_method_1_code 310 (.ishl) 1 311 := ⟨by decide +kernel, rfl⟩
theorem e15_311 : Dc prog_15_method_1_code 311 (.iadd) 1 312 := ⟨by decide +kernel, rfl⟩
theorem e15_312 : Dc prog_15_method_1_code 312 (.iload 8) 2 314 := ⟨by decide +kernel, rfl⟩
theorem e15_314 : Dc prog_15_method_1_code 314 (.iconst 5) 1 315 := ⟨by decide +kernel, rfl⟩
theorem e15_315 : Dc prog_15_method_1_code 315 (.ishl) 1 316 := ⟨by decide +kernel, rfl⟩
theorem e15_316 : Dc prog_15_method_1_code 316 (.iload 9) 2 318 := ⟨by decide +kernel, rfl⟩
theorem e15_318 : Dc prog_15_method_1_code 318 (.ior) 1 319 := ⟨by decide +kernel, rfl⟩
theorem e15_319 : Dc prog_15_method_1_code 319 (.invokestatic 51) 3 322 := ⟨by decide +kernel, rfl⟩
theorem e15_322 : Dc prog_15_method_1_code 322 (.iinc 8 1) 3 325 := ⟨by decide +kernel, rfl⟩
theorem e15_325 : Dc prog_15_method_1_code 325 (.goto (-97)) 3 328 := ⟨by decide +kernel, rfl⟩
theorem e15_328 : Dc prog_15_method_1_code 328 (.return_) 1 329 := ⟨by decide +kernel, rfl⟩
theorem e16_0 : Dc jdk_65_method_104_code 0 (.aload_n 0) 1 1 := ⟨by decide +kernel, rfl⟩
theorem e16_1 : Dc jdk_65_method_104_code 1 (.arraylength) 1 2 := ⟨by decide +kernel, rfl⟩
theorem e16_2 : Dc jdk_65_method_104_code 2 (.iload_n 1) 1 3 := ⟨by decide +kernel, rfl⟩
theorem e16_3 : Dc jdk_65_method_104_code 3 (.iload_n 2) 1 4 := ⟨by decide +kernel, rfl⟩
theorem e16_4 : Dc jdk_65_method_104_code 4 (.invokestatic 13) 3 7 := ⟨by decide +kernel, rfl⟩
theorem e16_7 : Dc jdk_65_method_104_code 7 (.iload_n 1) 1 8 := ⟨by decide +kernel, rfl⟩
theorem e16_8 : Dc jdk_65_method_104_code 8 (.istore 4) 2 10 := ⟨by decide +kernel, rfl⟩
theorem e16_10 : Dc jdk_65_method_104_code 10 (.iload 4) 2 12 := ⟨by decide +kernel, rfl⟩
theorem e16_12 : Dc jdk_65_method_104_code 12 (.iload_n 2) 1 13 := ⟨by decide +kernel, rfl⟩
theorem e16_13 : Dc jdk_65_method_104_code 13 (.if_icmp .ge 14) 3 16 := ⟨by decide +kernel, rfl⟩
theorem e16_16 : Dc jdk_65_method_104_code 16 (.aload_n 0) 1 17 := ⟨by decide +kernel, rfl⟩
theorem e16_17 : Dc jdk_65_method_104_code 17 (.iload 4) 2 19 := ⟨by decide +kernel, rfl⟩
theorem e16_19 : Dc jdk_65_method_104_code 19 (.iload_n 3) 1 20 := ⟨by decide +kernel, rfl⟩
theorem e16_20 : Dc jdk_65_method_104_code 20 (.iastore) 1 21 := ⟨by decide +kernel, rfl⟩
theorem e16_21 : Dc jdk_65_method_104_code 21 (.iinc 4 1) 3 24 := ⟨by decide +kernel, rfl⟩
theorem e16_24 : Dc jdk_65_method_104_code 24 (.goto (-14)) 3 27 := ⟨by decide +kernel, rfl⟩
theorem e16_27 : Dc jdk_65_method_104_code 27 (.return_) 1 28 := ⟨by decide +kernel, rfl⟩
theorem e17_0 : Dc jdk_65_method_30_code 0 (.iload_n 1) 1 1 := ⟨by decide +kernel, rfl⟩
theorem e17_1 : Dc jdk_65_method_30_code 1 (.iload_n 2) 1 2 := ⟨by decide +kernel, rfl⟩
theorem e17_2 : Dc jdk_65_method_30_code 2 (.if_icmp .le 44) 3 5 := ⟨by decide +kernel, rfl⟩
theorem e17_46 : Dc jdk_65_method_30_code 46 (.iload_n 1) 1 47 := ⟨by decide +kernel, rfl⟩
theorem e17_47 : Dc jdk_65_method_30_code 47 (.ifCond .ge 12) 3 50 := ⟨by decide +kernel, rfl⟩
theorem e17_59 : Dc jdk_65_method_30_code 59 (.iload_n 2) 1 60 := ⟨by decide +kernel, rfl⟩
theorem e17_60 : Dc jdk_65_method_30_code 60 (.iload_n 0) 1 61 := ⟨by decide +kernel, rfl⟩
theorem e17_61 : Dc jdk_65_method_30_code 61 (.if_icmp .le 12) 3 64 := ⟨by decide +kernel, rfl⟩
theorem e17_73 : Dc jdk_65_method_30_code 73 (.return_) 1 74 := ⟨by decide +kernel, rfl⟩
theorem e18_0 : Dc prog_15_method_2_code 0 (.aload_n 0) 1 1 := ⟨by decide +kernel, rfl⟩
theorem e18_1 : Dc prog_15_method_2_code 1 (.getfield 3) 3 4 := ⟨by decide +kernel, rfl⟩
theorem e18_4 : Dc prog_15_method_2_code 4 (.bipush 20) 2 6 := ⟨by decide +kernel, rfl⟩
theorem e18_6 : Dc prog_15_method_2_code 6 (.invokevirtual 57) 3 9 := ⟨by decide +kernel, rfl⟩
theorem e18_9 : Dc prog_15_method_2_code 9 (.aload_n 0) 1 10 := ⟨by decide +kernel, rfl⟩
theorem e18_10 : Dc prog_15_method_2_code 10 (.getfield 3) 3 13 := ⟨by decide +kernel, rfl⟩
theorem e18_13 : Dc prog_15_method_2_code 13 (.getfield 60) 3 16 := ⟨by decide +kernel, rfl⟩
theorem e18_16 : Dc prog_15_method_2_code 16 (.bipush 20) 2 18 := ⟨by decide +kernel, rfl⟩
theorem e18_18 : Dc prog_15_method_2_code 18 (.if_icmp .lt 24) 3 21 := ⟨by decide +kernel, rfl⟩
theorem e18_21 : Dc prog_15_method_2_code 21 (.aload_n 0) 1 22 := ⟨by decide +kernel, rfl⟩
theorem e18_22 : Dc prog_15_method_2_code 22 (.getfield 3) 3 25 := ⟨by decide +kernel, rfl⟩
theorem e18_25 : Dc prog_15_method_2_code 25 (.getfield 63) 3 28 := ⟨by decide +kernel, rfl⟩
theorem e18_28 : Dc prog_15_method_2_code 28 (.aload_n 0) 1 29 := ⟨by decide +kernel, rfl⟩
theorem e18_29 : Dc prog_15_method_2_code 29 (.getfield 3) 3 32 := ⟨by decide +kernel, rfl⟩
theorem e18_32 : Dc prog_15_method_2_code 32 (.getfield 60) 3 35 := ⟨by decide +kernel, rfl⟩
theorem e18_35 : Dc prog_15_method_2_code 35 (.bipush 20) 2 37 := ⟨by decide +kernel, rfl⟩
theorem e18_37 : Dc prog_15_method_2_code 37 (.isub) 1 38 := ⟨by decide +kernel, rfl⟩
theorem e18_38 : Dc prog_15_method_2_code 38 (.lushr) 1 39 := ⟨by decide +kernel, rfl⟩
theorem e18_39 : Dc prog_15_method_2_code 39 (.goto 21) 3 42 := ⟨by decide +kernel, rfl⟩
theorem e18_42 : Dc prog_15_method_2_code 42 (.aload_n 0) 1 43 := ⟨by decide +kernel, rfl⟩
theorem e18_43 : Dc prog_15_method_2_code 43 (.getfield 3) 3 46 := ⟨by decide +kernel, rfl⟩
theorem e18_46 : Dc prog_15_method_2_code 46 (.getfield 63) 3 49 := ⟨by decide +kernel, rfl⟩
theorem e18_49 : Dc prog_15_method_2_code 49 (.bipush 20) 2 51 := ⟨by decide +kernel, rfl⟩
theorem e18_51 : Dc prog_15_method_2_code 51 (.aload_n 0) 1 52 := ⟨by decide +kernel, rfl⟩
theorem e18_52 : Dc prog_15_method_2_code 52 (.getfield 3) 3 55 := ⟨by decide +kernel, rfl⟩
theorem e18_55 : Dc prog_15_method_2_code 55 (.getfield 60) 3 58 := ⟨by decide +kernel, rfl⟩
theorem e18_58 : Dc prog_15_method_2_code 58 (.isub) 1 59 := ⟨by decide +kernel, rfl⟩
theorem e18_59 : Dc prog_15_method_2_code 59 (.lshl) 1 60 := ⟨by decide +kernel, rfl⟩
theorem e18_60 : Dc prog_15_method_2_code 60 (.lstore_n 1) 1 61 := ⟨by decide +kernel, rfl⟩
theorem e18_61 : Dc prog_15_method_2_code 61 (.lload_n 1) 1 62 := ⟨by decide +kernel, rfl⟩
theorem e18_62 : Dc prog_15_method_2_code 62 (.ldc2_w 67) 3 65 := ⟨by decide +kernel, rfl⟩
theorem e18_65 : Dc prog_15_method_2_code 65 (.land) 1 66 := ⟨by decide +kernel, rfl⟩
theorem e18_66 : Dc prog_15_method_2_code 66 (.l2i) 1 67 := ⟨by decide +kernel, rfl⟩
theorem e18_67 : Dc prog_15_method_2_code 67 (.istore_n 3) 1 68 := ⟨by decide +kernel, rfl⟩
theorem e18_68 : Dc prog_15_method_2_code 68 (.aload_n 0) 1 69 := ⟨by decide +kernel, rfl⟩
theorem e18_69 : Dc prog_15_method_2_code 69 (.getfield 15) 3 72 := ⟨by decide +kernel, rfl⟩
theorem e18_72 : Dc prog_15_method_2_code 72 (.iload_n 3) 1 73 := ⟨by decide +kernel, rfl⟩
theorem e18_73 : Dc prog_15_method_2_code 73 (.bipush 10) 2 75 := ⟨by decide +kernel, rfl⟩
theorem e18_75 : Dc prog_15_method_2_code 75 (.iushr) 1 76 := ⟨by decide +kernel, rfl⟩
theorem e18_76 : Dc prog_15_method_2_code 76 (.iaload) 1 77 := ⟨by decide +kernel, rfl⟩
theorem e18_77 : Dc prog_15_method_2_code 77 (.istore 4) 2 79 := ⟨by decide +kernel, rfl⟩
theorem e18_79 : Dc prog_15_method_2_code 79 (.iload 4) 2 81 := ⟨by decide +kernel, rfl⟩
theorem e18_81 : Dc prog_15_method_2_code 81 (.ifCond .eq 19) 3 84 := ⟨by decide +kernel, rfl⟩
theorem e18_84 : Dc prog_15_method_2_code 84 (.iload 4) 2 86 := ⟨by decide +kernel, rfl⟩
theorem e18_86 : Dc prog_15_method_2_code 86 (.bipush 31) 2 88 := ⟨by decide +kernel, rfl⟩
theorem e18_88 : Dc prog_15_method_2_code 88 (.iand) 1 89 := ⟨by decide +kernel, rfl⟩
theorem e18_89 : Dc prog_15_method_2_code 89 (.istore 5) 2 91 := ⟨by decide +kernel, rfl⟩
theorem e18_91 : Dc prog_15_method_2_code 91 (.iload 4) 2 93 := ⟨by decide +kernel, rfl⟩
theorem e18_93 : Dc prog_15_method_2_code 93 (.iconst 5) 1 94 := ⟨by decide +kernel, rfl⟩
theorem e18_94 : Dc prog_15_method_2_code 94 (.iushr) 1 95 := ⟨by decide +kernel, rfl⟩
theorem e18_95 : Dc prog_15_method_2_code 95 (.istore 6) 2 97 := ⟨by decide +kernel, rfl⟩
theorem e18_97 : Dc prog_15_method_2_code 97 (.goto 102) 3 100 := ⟨by decide +kernel, rfl⟩
theorem e18_199 : Dc prog_15_method_2_code 199 (.aload_n 0) 1 200 := ⟨by decide +kernel, rfl⟩
theorem e18_200 : Dc prog_15_method_2_code 200 (.getfield 3) 3 203 := ⟨by decide +kernel, rfl⟩
theorem e18_203 : Dc prog_15_method_2_code 203 (.iload 5) 2 205 := ⟨by decide +kernel, rfl⟩
theorem e18_205 : Dc prog_15_method_2_code 205 (.invokevirtual 70) 3 208 := ⟨by decide +kernel, rfl⟩
theorem e18_208 : Dc prog_15_method_2_code 208 (.iload 6) 2 210 := ⟨by decide +kernel, rfl⟩
theorem e18_210 : Dc prog_15_method_2_code 210 (.ireturn) 1 211 := ⟨by decide +kernel, rfl⟩
theorem e19_0 : Dc prog_14_method_9_code 0 (.iload_n 2) 1 1 := ⟨by decide +kernel, rfl⟩
theorem e19_1 : Dc prog_14_method_9_code 1 (.aload_n 0) 1 2 := ⟨by decide +kernel, rfl⟩
theorem e19_2 : Dc prog_14_method_9_code 2 (.getfield 40) 3 5 := ⟨by decide +kernel, rfl⟩
theorem e19_5 : Dc prog_14_method_9_code 5 (.iload_n 3) 1 6 := ⟨by decide +kernel, rfl⟩
theorem e19_6 : Dc prog_14_method_9_code 6 (.isub) 1 7 := ⟨by decide +kernel, rfl⟩
theorem e19_7 : Dc prog_14_method_9_code 7 (.if_icmp .le 24) 3 10 := ⟨by decide +kernel, rfl⟩
theorem e19_31 : Dc prog_14_method_9_code 31 (.iload_n 3) 1 32 := ⟨by decide +kernel, rfl⟩
theorem e19_32 : Dc prog_14_method_9_code 32 (.iload_n 2) 1 33 := ⟨by decide +kernel, rfl⟩
theorem e19_33 : Dc prog_14_method_9_code 33 (.iadd) 1 34 := ⟨by decide +kernel, rfl⟩
theorem e19_34 : Dc prog_14_method_9_code 34 (.istore 4) 2 36 := ⟨by decide +kernel, rfl⟩
theorem e19_36 : Dc prog_14_method_9_code 36 (.iload 4) 2 38 := ⟨by decide +kernel, rfl⟩
theorem e19_38 : Dc prog_14_method_9_code 38 (.aload_n 0) 1 39 := ⟨by decide +kernel, rfl⟩
theorem e19_39 : Dc prog_14_method_9_code 39 (.getfield 7) 3 42 := ⟨by decide +kernel, rfl⟩
theorem e19_42 : Dc prog_14_method_9_code 42 (.arraylength) 1 43 := ⟨by decide +kernel, rfl⟩
theorem e19_43 : Dc prog_14_method_9_code 43 (.if_icmp .le 42) 3 46 := ⟨by decide +kernel, rfl⟩
theorem e19_46 : Dc prog_14_method_9_code 46 (.aload_n 0) 1 47 := ⟨by decide +kernel, rfl⟩
theorem e19_47 : Dc prog_14_method_9_code 47 (.getfield 7) 3 50 := ⟨by decide +kernel, rfl⟩
theorem e19_50 : Dc prog_14_method_9_code 50 (.arraylength) 1 51 := ⟨by decide +kernel, rfl⟩
theorem e19_51 : Dc prog_14_method_9_code 51 (.iconst 2) 1 52 := ⟨by decide +kernel, rfl⟩
theorem e19_52 : Dc prog_14_method_9_code 52 (.imul) 1 53 := ⟨by decide +kernel, rfl⟩
theorem e19_53 : Dc prog_14_method_9_code 53 (.iload 4) 2 55 := ⟨by decide +kernel, rfl⟩
theorem e19_55 : Dc prog_14_method_9_code 55 (.ldc 158) 2 57 := ⟨by decide +kernel, rfl⟩
theorem e19_57 : Dc prog_14_method_9_code 57 (.invokestatic 159) 3 60 := ⟨by decide +kernel, rfl⟩
theorem e19_60 : Dc prog_14_method_9_code 60 (.invokestatic 159) 3 63 := ⟨by decide +kernel, rfl⟩
theorem e19_63 : Dc prog_14_method_9_code 63 (.istore 5) 2 65 := ⟨by decide +kernel, rfl⟩
theorem e19_65 : Dc prog_14_method_9_code 65 (.aload_n 0) 1 66 := ⟨by decide +kernel, rfl⟩
theorem e19_66 : Dc prog_14_method_9_code 66 (.aload_n 0) 1 67 := ⟨by decide +kernel, rfl⟩
theorem e19_67 : Dc prog_14_method_9_code 67 (.getfield 7) 3 70 := ⟨by decide +kernel, rfl⟩
theorem e19_70 : Dc prog_14_method_9_code 70 (.iload 5) 2 72 := ⟨by decide +kernel, rfl⟩
theorem e19_72 : Dc prog_14_method_9_code 72 (.aload_n 0) 1 73 := ⟨by decide +kernel, rfl⟩
theorem e19_73 : Dc prog_14_method_9_code 73 (.getfield 40) 3 76 := ⟨by decide +kernel, rfl⟩
theorem e19_76 : Dc prog_14_method_9_code 76 (.invokestatic 165) 3 79 := ⟨by decide +kernel, rfl⟩
theorem e19_79 : Dc prog_14_method_9_code 79 (.invokestatic 168) 3 82 := ⟨by decide +kernel, rfl⟩
theorem e19_82 : Dc prog_14_method_9_code 82 (.putfield 7) 3 85 := ⟨by decide +kernel, rfl⟩
theorem e19_85 : Dc prog_14_method_9_code 85 (.aload_n 0) 1 86 := ⟨by decide +kernel, rfl⟩
theorem e19_86 : Dc prog_14_method_9_code 86 (.getfield 7) 3 89 := ⟨by decide +kernel, rfl⟩
theorem e19_89 : Dc prog_14_method_9_code 89 (.iload_n 3) 1 90 := ⟨by decide +kernel, rfl⟩
theorem e19_90 : Dc prog_14_method_9_code 90 (.iload 4) 2 92 := ⟨by decide +kernel, rfl⟩
theorem e19_92 : Dc prog_14_method_9_code 92 (.iload_n 1) 1 93 := ⟨by decide +kernel, rfl⟩
theorem e19_93 : Dc prog_14_method_9_code 93 (.invokestatic 174) 3 96 := ⟨by decide +kernel, rfl⟩
theorem e19_96 : Dc prog_14_method_9_code 96 (.iload 4) 2 98 := ⟨by decide +kernel, rfl⟩
theorem e19_98 : Dc prog_14_method_9_code 98 (.ireturn) 1 99 := ⟨by decide +kernel, rfl⟩
theorem e20_0 : Dc jdk_29_method_65_code 0 (.iload_n 0) 1 1 := ⟨by decide +kernel, rfl⟩
theorem e20_1 : Dc jdk_29_method_65_code 1 (.iload_n 1) 1 2 := ⟨by decide +kernel, rfl⟩
theorem e20_2 : Dc jdk_29_method_65_code 2 (.if_icmp .lt 7) 3 5 := ⟨by decide +kernel, rfl⟩
theorem e20_5 : Dc jdk_29_method_65_code 5 (.iload_n 0) 1 6 := ⟨by decide +kernel, rfl⟩
theorem e20_6 : Dc jdk_29_method_65_code 6 (.goto 4) 3 9 := ⟨by decide +kernel, rfl⟩
theorem e20_9 : Dc jdk_29_method_65_code 9 (.iload_n 1) 1 10 := ⟨by decide +kernel, rfl⟩
theorem e20_10 : Dc jdk_29_method_65_code 10 (.ireturn) 1 11 := ⟨by decide +kernel, rfl⟩
theorem e21_0 : Dc prog_14_method_13_code 0 (.sipush 256) 3 3 := ⟨by decide +kernel, rfl⟩
theorem e21_3 : Dc prog_14_method_13_code 3 (.newarray .int) 2 5 := ⟨by decide +kernel, rfl⟩
theorem e21_5 : Dc prog_14_method_13_code 5 (.astore_n 1) 1 6 := ⟨by decide +kernel, rfl⟩
theorem e21_6 : Dc prog_14_method_13_code 6 (.iconst 0) 1 7 := ⟨by decide +kernel, rfl⟩
theorem e21_7 : Dc prog_14_method_13_code 7 (.istore_n 2) 1 8 := ⟨by decide +kernel, rfl⟩
theorem e21_8 : Dc prog_14_method_13_code 8 (.iload_n 2) 1 9 := ⟨by decide +kernel, rfl⟩
theorem e21_9 : Dc prog_14_method_13_code 9 (.aload_n 0) 1 10 := ⟨by decide +kernel, rfl⟩
theorem e21_10 : Dc prog_14_method_13_code 10 (.getfield 66) 3 13 := ⟨by decide +kernel, rfl⟩
theorem e21_13 : Dc prog_14_method_13_code 13 (.if_icmp .ge 25) 3 16 := ⟨by decide +kernel, rfl⟩
theorem e21_16 : Dc prog_14_method_13_code 16 (.aload_n 1) 1 17 := ⟨by decide +kernel, rfl⟩
theorem e21_17 : Dc prog_14_method_13_code 17 (.aload_n 0) 1 18 := ⟨by decide +kernel, rfl⟩
theorem e21_18 : Dc prog_14_method_13_code 18 (.getfield 7) 3 21 := ⟨by decide +kernel, rfl⟩
theorem e21_21 : Dc prog_14_method_13_code 21 (.iload_n 2) 1 22 := ⟨by decide +kernel, rfl⟩
theorem e21_22 : Dc prog_14_method_13_code 22 (.iaload) 1 23 := ⟨by decide +kernel, rfl⟩
theorem e21_23 : Dc prog_14_method_13_code 23 (.sipush 255) 3 26 := ⟨by decide +kernel, rfl⟩
theorem e21_26 : Dc prog_14_method_13_code 26 (.iand) 1 27 := ⟨by decide +kernel, rfl⟩
theorem e21_27 : Dc prog_14_method_13_code 27 (.dup2) 1 28 := ⟨by decide +kernel, rfl⟩
theorem e21_28 : Dc prog_14_method_13_code 28 (.iaload) 1 29 := ⟨by decide +kernel, rfl⟩
theorem e21_29 : Dc prog_14_method_13_code 29 (.iconst 1) 1 30 := ⟨by decide +kernel, rfl⟩
theorem e21_30 : Dc prog_14_method_13_code 30 (.iadd) 1 31 := ⟨by decide +kernel, rfl⟩
theorem e21_31 : Dc prog_14_method_13_code 31 (.iastore) 1 32 := ⟨by decide +kernel, rfl⟩
theorem e21_32 : Dc prog_14_method_13_code 32 (.iinc 2 1) 3 35 := ⟨by decide +kernel, rfl⟩
theorem e21_35 : Dc prog_14_method_13_code 35 (.goto (-27)) 3 38 := ⟨by decide +kernel, rfl⟩
theorem e21_38 : Dc prog_14_method_13_code 38 (.iconst 0) 1 39 := ⟨by decide +kernel, rfl⟩
theorem e21_39 : Dc prog_14_method_13_code 39 (.istore_n 2) 1 40 := ⟨by decide +kernel, rfl⟩
theorem e21_40 : Dc prog_14_method_13_code 40 (.iconst 0) 1 41 := ⟨by decide +kernel, rfl⟩
theorem e21_41 : Dc prog_14_method_13_code 41 (.istore_n 3) 1 42 := ⟨by decide +kernel, rfl⟩
theorem e21_42 : Dc prog_14_method_13_code 42 (.iload_n 3) 1 43 := ⟨by decide +kernel, rfl⟩
theorem e21_43 : Dc prog_14_method_13_code 43 (.aload_n 1) 1 44 := ⟨by decide +kernel, rfl⟩
theorem e21_44 : Dc prog_14_method_13_code 44 (.arraylength) 1 45 := ⟨by decide +kernel, rfl⟩
theorem e21_45 : Dc prog_14_method_13_code 45 (.if_icmp .ge 23) 3 48 := ⟨by decide +kernel, rfl⟩
theorem e21_48 : Dc prog_14_method_13_code 48 (.aload_n 1) 1 49 := ⟨by decide +kernel, rfl⟩
theorem e21_49 : Dc prog_14_method_13_code 49 (.iload_n 3) 1 50 := ⟨by decide +kernel, rfl⟩
theorem e21_50 : Dc prog_14_method_13_code 50 (.iaload) 1 51 := ⟨by decide +kernel, rfl⟩
theorem e21_51 : Dc prog_14_method_13_code 51 (.istore 4) 2 53 := ⟨by decide +kernel, rfl⟩
theorem e21_53 : Dc prog_14_method_13_code 53 (.aload_n 1) 1 54 := ⟨by decide +kernel, rfl⟩
theorem e21_54 : Dc prog_14_method_13_code 54 (.iload_n 3) 1 55 := ⟨by decide +kernel, rfl⟩
theorem e21_55 : Dc prog_14_method_13_code 55 (.iload_n 2) 1 56 := ⟨by decide +kernel, rfl⟩
theorem e21_56 : Dc prog_14_method_13_code 56 (.iastore) 1 57 := ⟨by decide +kernel, rfl⟩
theorem e21_57 : Dc prog_14_method_13_code 57 (.iload_n 2) 1 58 := ⟨by decide +kernel, rfl⟩
theorem e21_58 : Dc prog_14_method_13_code 58 (.iload 4) 2 60 := ⟨by decide +kernel, rfl⟩
theorem e21_60 : Dc prog_14_method_13_code 60 (.iadd) 1 61 := ⟨by decide +kernel, rfl⟩
theorem e21_61 : Dc prog_14_method_13_code 61 (.istore_n 2) 1 62 := ⟨by decide +kernel, rfl⟩
theorem e21_62 : Dc prog_14_method_13_code 62 (.iinc 3 1) 3 65 := ⟨by decide +kernel, rfl⟩
theorem e21_65 : Dc prog_14_method_13_code 65 (.goto (-23)) 3 68 := ⟨by decide +kernel, rfl⟩
theorem e21_68 : Dc prog_14_method_13_code 68 (.iconst 0) 1 69 := ⟨by decide +kernel, rfl⟩
theorem e21_69 : Dc prog_14_method_13_code 69 (.istore_n 3) 1 70 := ⟨by decide +kernel, rfl⟩
theorem e21_70 : Dc prog_14_method_13_code 70 (.iload_n 3) 1 71 := ⟨by decide +kernel, rfl⟩
theorem e21_71 : Dc prog_14_method_13_code 71 (.aload_n 0) 1 72 := ⟨by decide +kernel, rfl⟩
theorem e21_72 : Dc prog_14_method_13_code 72 (.getfield 66) 3 75 := ⟨by decide +kernel, rfl⟩
theorem e21_75 : Dc prog_14_method_13_code 75 (.if_icmp .ge 38) 3 78 := ⟨by decide +kernel, rfl⟩
theorem e21_78 : Dc prog_14_method_13_code 78 (.aload_n 0) 1 79 := ⟨by decide +kernel, rfl⟩
theorem e21_79 : Dc prog_14_method_13_code 79 (.getfield 7) 3 82 := ⟨by decide +kernel, rfl⟩
theorem e21_82 : Dc prog_14_method_13_code 82 (.aload_n 1) 1 83 := ⟨by decide +kernel, rfl⟩
theorem e21_83 : Dc prog_14_method_13_code 83 (.aload_n 0) 1 84 := ⟨by decide +kernel, rfl⟩
theorem e21_84 : Dc prog_14_method_13_code 84 (.getfield 7) 3 87 := ⟨by decide +kernel, rfl⟩
theorem e21_87 : Dc prog_14_method_13_code 87 (.iload_n 3) 1 88 := ⟨by decide +kernel, rfl⟩
theorem e21_88 : Dc prog_14_method_13_code 88 (.iaload) 1 89 := ⟨by decide +kernel, rfl⟩
theorem e21_89 : Dc prog_14_method_13_code 89 (.sipush 255) 3 92 := ⟨by decide +kernel, rfl⟩
theorem e21_92 : Dc prog_14_method_13_code 92 (.iand) 1 93 := ⟨by decide +kernel, rfl⟩
theorem e21_93 : Dc prog_14_method_13_code 93 (.dup2) 1 94 := ⟨by decide +kernel, rfl⟩
theorem e21_94 : Dc prog_14_method_13_code 94 (.iaload) 1 95 := ⟨by decide +kernel, rfl⟩
theorem e21_95 : Dc prog_14_method_13_code 95 (.dup_x2) 1 96 := ⟨by decide +kernel, rfl⟩
theorem e21_96 : Dc prog_14_method_13_code 96 (.iconst 1) 1 97 := ⟨by decide +kernel, rfl⟩
theorem e21_97 : Dc prog_14_method_13_code 97 (.iadd) 1 98 := ⟨by decide +kernel, rfl⟩
theorem e21_98 : Dc prog_14_method_13_code 98 (.iastore) 1 99 := ⟨by decide +kernel, rfl⟩
theorem e21_99 : Dc prog_14_method_13_code 99 (.dup2) 1 100 := ⟨by decide +kernel, rfl⟩
theorem e21_100 : Dc prog_14_method_13_code 100 (.iaload) 1 101 := ⟨by decide +kernel, rfl⟩
theorem e21_101 : Dc prog_14_method_13_code 101 (.iload_n 3) 1 102 := ⟨by decide +kernel, rfl⟩
theorem e21_102 : Dc prog_14_method_13_code 102 (.bipush 8) 2 104 := ⟨by decide +kernel, rfl⟩
theorem e21_104 : Dc prog_14_method_13_code 104 (.ishl) 1 105 := ⟨by decide +kernel, rfl⟩
theorem e21_105 : Dc prog_14_method_13_code 105 (.ior) 1 106 := ⟨by decide +kernel, rfl⟩
theorem e21_106 : Dc prog_14_method_13_code 106 (.iastore) 1 107 := ⟨by decide +kernel, rfl⟩
theorem e21_107 : Dc prog_14_method_13_code 107 (.iinc 3 1) 3 110 := ⟨by decide +kernel, rfl⟩
theorem e21_110 : Dc prog_14_method_13_code 110 (.goto (-40)) 3 113 := ⟨by decide +kernel, rfl⟩
theorem e21_113 : Dc prog_14_method_13_code 113 (.return_) 1 114 := ⟨by decide +kernel, rfl⟩
theorem pf_0 : parseFieldDescriptor "I" = some .int := by decide +kernel
theorem pf_1 : parseFieldDescriptor "J" = some .long := by decide +kernel
theorem pn_2 : plainName "com/example/deltaweave/deltaweave/format/Bzip2InputStream" = true := by first | (simp [plainName, overriddenIn]; done) | decide +kernel
theorem hy_3 : "com/example/deltaweave/deltaweave/format/Bzip2InputStream" ≠ "java/lang/invoke/MethodHandle" ∧ "com/example/deltaweave/deltaweave/format/Bzip2InputStream" ≠ "java/lang/invoke/VarHandle" := by decide
theorem pd_4 : parseMethodDescriptor "(I)V" = some ⟨[.int], none⟩ := by decide +kernel
theorem pn_5 : plainName "java/util/Arrays" = true := by first | (simp [plainName, overriddenIn]; done) | decide +kernel
theorem pn_6 : plainFor (⟨"java/lang/Math", "min", "(II)I"⟩ : MethodName) = true := by decide +kernel
theorem pn_7 : plainFor (⟨"java/lang/Math", "max", "(II)I"⟩ : MethodName) = true := by decide +kernel
theorem hy_8 : "java/util/Arrays" ≠ "java/lang/invoke/MethodHandle" ∧ "java/util/Arrays" ≠ "java/lang/invoke/VarHandle" := by decide
theorem pd_9 : parseMethodDescriptor "(III)V" = some ⟨[.int, .int, .int], none⟩ := by decide +kernel
theorem hy_10 : "java/lang/Math" ≠ "java/lang/invoke/MethodHandle" ∧ "java/lang/Math" ≠ "java/lang/invoke/VarHandle" := by decide
theorem pd_11 : parseMethodDescriptor "(II)I" = some ⟨[.int, .int], some .int⟩ := by decide +kernel
theorem pd_12 : parseMethodDescriptor "([II)[I" = some ⟨[(.array .int), .int], some (.array .int)⟩ := by decide +kernel
theorem pf_13 : parseFieldDescriptor "[I" = some (.array .int) := by decide +kernel
theorem pd_14 : parseMethodDescriptor "([IIII)V" = some ⟨[(.array .int), .int, .int, .int], none⟩ := by decide +kernel
theorem pn_15 : plainName "com/example/deltaweave/deltaweave/format/Bzip2InputStream$HuffmanTable" = true := by first | (simp [plainName, overriddenIn]; done) | decide +kernel
theorem pd_16 : parseMethodDescriptor "(I)I" = some ⟨[.int], some .int⟩ := by decide +kernel
theorem pf_17 : parseFieldDescriptor "Lcom/example/deltaweave/deltaweave/format/Bzip2InputStream;" = some (.object "com/example/deltaweave/deltaweave/format/Bzip2InputStream") := by decide +kernel
theorem pd_18 : parseMethodDescriptor "()[I" = some ⟨[], some (.array .int)⟩ := by decide +kernel
theorem pd_19 : parseMethodDescriptor "(I)[B" = some ⟨[.int], some (.array .byte)⟩ := by decide +kernel
theorem lay_20 {Z : State} {a0 : Array Value} {b : Nat} (hw : ∀ d ∈ tables_1, d.before a0 Z = true) : Laids Z a0 b "com/example/deltaweave/deltaweave/format/Bzip2InputStream$HuffmanTable" [("this$0", "Lcom/example/deltaweave/deltaweave/format/Bzip2InputStream;", .null), ("lookup", "[I", .null), ("firstCode", "[I", .null), ("codeCount", "[I", .null), ("firstIndex", "[I", .null), ("symbolsByCode", "[I", .null)] := ⟨⟨Or.inr (hw _ (wd 100 rfl)), _, pf_17, rfl⟩, ⟨⟨Or.inr (hw _ (wd 103 rfl)), _, pf_13, rfl⟩, ⟨⟨Or.inr (hw _ (wd 105 rfl)), _, pf_13, rfl⟩, ⟨⟨Or.inr (hw _ (wd 107 rfl)), _, pf_13, rfl⟩, ⟨⟨Or.inr (hw _ (wd 109 rfl)), _, pf_13, rfl⟩, ⟨⟨Or.inr (hw _ (wd 112 rfl)), _, pf_13, rfl⟩, trivial⟩⟩⟩⟩⟩⟩
theorem nd_21 : (["this$0", "lookup", "firstCode", "codeCount", "firstIndex", "symbolsByCode"] : List String).Nodup := by decide
theorem pd_22 : parseMethodDescriptor "(I)[I" = some ⟨[.int], some (.array .int)⟩ := by decide +kernel
theorem hy_23 : "com/example/deltaweave/deltaweave/format/Bzip2InputStream$HuffmanTable" ≠ "java/lang/invoke/MethodHandle" ∧ "com/example/deltaweave/deltaweave/format/Bzip2InputStream$HuffmanTable" ≠ "java/lang/invoke/VarHandle" := by decide
theorem pd_24 : parseMethodDescriptor "(Lcom/example/deltaweave/deltaweave/format/Bzip2InputStream;[I)V" = some ⟨[(.object "com/example/deltaweave/deltaweave/format/Bzip2InputStream"), (.array .int)], none⟩ := by decide +kernel
theorem pd_25 : parseMethodDescriptor "()I" = some ⟨[], some .int⟩ := by decide +kernel
theorem pd_26 : parseMethodDescriptor "(III)I" = some ⟨[.int, .int, .int], some .int⟩ := by decide +kernel
theorem pd_27 : parseMethodDescriptor "()V" = some ⟨[], none⟩ := by decide +kernel
theorem pf_28 : parseFieldDescriptor "Z" = some .boolean := by decide +kernel
theorem pn_29 : plainName "java/io/InputStream" = true := by first | (simp [plainName, overriddenIn]; done) | decide +kernel
theorem hy_30 : "java/io/InputStream" ≠ "java/lang/invoke/MethodHandle" ∧ "java/io/InputStream" ≠ "java/lang/invoke/VarHandle" := by decide
theorem pf_31 : parseFieldDescriptor "[B" = some (.array .byte) := by decide +kernel
theorem lay_32 {Z : State} {a0 : Array Value} {b : Nat} (hw : ∀ d ∈ tables_1, d.before a0 Z = true) : Laids Z a0 b "com/example/deltaweave/deltaweave/format/Bzip2InputStream" [("block", "[I", .null), ("input", "[B", .null), ("inputNext", "I", .int 0), ("inputEnd", "I", .int 0), ("bitCount", "I", .int 0), ("bitBuffer", "J", .long 0), ("blockSizeLimit", "I", .int 0), ("streamCrc", "I", .int 0), ("ended", "Z", .int 0), ("blockNumber", "I", .int 0), ("blockCrc", "I", .int 0), ("blockLength", "I", .int 0), ("position", "I", .int 0), ("blockRead", "I", .int 0), ("crc", "I", .int 0), ("lastByte", "I", .int 0), ("equalBytes", "I", .int 0), ("repeats", "I", .int 0)] := ⟨⟨Or.inl (hw _ (wd 17 rfl)), _, pf_13, rfl⟩, ⟨⟨Or.inr (hw _ (wd 19 rfl)), _, pf_31, rfl⟩, ⟨⟨Or.inl (hw _ (wd 21 rfl)), _, pf_0, rfl⟩, ⟨⟨Or.inr (hw _ (wd 23 rfl)), _, pf_0, rfl⟩, ⟨⟨Or.inl (hw _ (wd 33 rfl)), _, pf_0, rfl⟩, ⟨⟨Or.inl (hw _ (wd 35 rfl)), _, pf_1, rfl⟩, ⟨⟨Or.inr (hw _ (wd 42 rfl)), _, pf_0, rfl⟩, ⟨⟨Or.inl (hw _ (wd 49 rfl)), _, pf_0, rfl⟩, ⟨⟨Or.inl (hw _ (wd 51 rfl)), _, pf_28, rfl⟩, ⟨⟨Or.inl (hw _ (wd 59 rfl)), _, pf_0, rfl⟩, ⟨⟨Or.inl (hw _ (wd 61 rfl)), _, pf_0, rfl⟩, ⟨⟨Or.inl (hw _ (wd 150 rfl)), _, pf_0, rfl⟩, ⟨⟨Or.inl (hw _ (wd 156 rfl)), _, pf_0, rfl⟩, ⟨⟨Or.inl (hw _ (wd 158 rfl)), _, pf_0, rfl⟩, ⟨⟨Or.inl (hw _ (wd 160 rfl)), _, pf_0, rfl⟩, ⟨⟨Or.inl (hw _ (wd 162 rfl)), _, pf_0, rfl⟩, ⟨⟨Or.inl (hw _ (wd 164 rfl)), _, pf_0, rfl⟩, ⟨⟨Or.inl (hw _ (wd 166 rfl)), _, pf_0, rfl⟩, trivial⟩⟩⟩⟩⟩⟩⟩⟩⟩⟩⟩⟩⟩⟩⟩⟩⟩⟩
theorem nd_33 : (["block", "input", "inputNext", "inputEnd", "bitCount", "bitBuffer", "blockSizeLimit", "streamCrc", "ended", "blockNumber", "blockCrc", "blockLength", "position", "blockRead", "crc", "lastByte", "equalBytes", "repeats"] : List String).Nodup := by decide
theorem pd_34 : parseMethodDescriptor "([BII)V" = some ⟨[(.array .byte), .int, .int], none⟩ := by decide +kernel
theorem pn_35 : plainName "com/example/deltaweave/deltaweave/format/Bzip2InputStreamUnusedBytesPinLaw" = true := by first | (simp [plainName, overriddenIn]; done) | decide +kernel
def accL : Nat → List Int32 → Nat
  | v, [] => v
  | v, x :: xs => accL (v * 256 + (x &&& 255).toInt.toNat) xs
def Nx (vs : List Value) : Nat → List Int32 → Prop
  | _, [] => True
  | j, x :: xs => vs[j]? = some (.int x) ∧ Nx vs (j + 1) xs
theorem own_ti {j : Nat} (h : j < 2147483648) : (Int32.ofNat j).toInt = (j : Int) := Int32.toInt_ofNat_of_lt h
theorem own_shl8 (bb : Int64) : (bb <<< ((8 : Int32).toInt64 &&& 63)).toBitVec.toNat = bb.toBitVec.toNat * 256 % 2 ^ 64 := by
  show (bb.toBitVec <<< (((8 : Int32).toInt64 &&& 63).toBitVec.smod 64)).toNat = _
  rw [show ((8 : Int32).toInt64 &&& 63).toBitVec.smod 64 = 8#64 from by decide, BitVec.shiftLeft_eq', BitVec.toNat_shiftLeft, Nat.shiftLeft_eq]
  rfl
theorem own_and255 (x : Int32) : (x &&& 255).toInt64.toBitVec.toNat = (x &&& 255).toInt.toNat ∧ (x &&& 255).toInt.toNat < 256 := by
  have h := c_and x 255 (by decide)
  have k : (255 : Int32).toInt = 255 := rfl
  have e : (x &&& 255).toInt64.toInt = (x &&& 255).toInt := c_i2l _
  have e2 : (x &&& 255).toInt64.toBitVec.toInt = (x &&& 255).toInt64.toInt := rfl
  have l := (x &&& 255).toInt64.toBitVec.isLt
  rw [BitVec.toInt_eq_toNat_cond] at e2
  refine ⟨?_, by omega⟩
  split at e2 <;> omega
theorem own_push {bb : Int64} {c v : Nat} (x : Int32) (hv : bb.toBitVec.toNat % 2 ^ c = v) (hc : c ≤ 56) : ((bb <<< ((8 : Int32).toInt64 &&& 63)) ||| (x &&& 255).toInt64).toBitVec.toNat % 2 ^ (c + 8) = v * 256 + (x &&& 255).toInt.toNat := by
  show ((bb <<< ((8 : Int32).toInt64 &&& 63)).toBitVec ||| (x &&& 255).toInt64.toBitVec).toNat % _ = _
  obtain ⟨e1, e2⟩ := own_and255 x
  rw [BitVec.toNat_or, own_shl8, e1]
  generalize (x &&& 255).toInt.toNat = y at *
  generalize bb.toBitVec.toNat = B at *
  have e3 : B * 256 % 2 ^ 64 = (B % 2 ^ 56) <<< 8 := by rw [Nat.shiftLeft_eq]; omega
  rw [e3, ← Nat.shiftLeft_add_eq_or_of_lt (by exact e2), Nat.shiftLeft_eq, Nat.pow_add]
  have d : (B % 2 ^ 56) % 2 ^ c = v := by rw [Nat.mod_mod_of_dvd _ (Nat.pow_dvd_pow 2 hc)]; exact hv
  generalize B % 2 ^ 56 = M at *
  have p0 : 0 < 2 ^ c := Nat.pow_pos (by decide)
  generalize 2 ^ c = P at *
  have q := Nat.div_add_mod M P
  rw [d] at q
  have hlt : v < P := by rw [← d]; exact Nat.mod_lt _ p0
  have e4 : M * 2 ^ 8 + y = (v * 256 + y) + (P * 2 ^ 8) * (M / P) := by
    have : P * 2 ^ 8 * (M / P) = (P * (M / P)) * 256 := by rw [Nat.mul_assoc, Nat.mul_assoc, Nat.mul_comm (2 ^ 8)]
    rw [this]; omega
  rw [e4, Nat.add_mul_mod_self_left, Nat.mod_eq_of_lt (by omega)]
theorem own_take {bb : Int64} {z : Int32} {m : Int64} {c n V : Nat} (hV : bb.toBitVec.toNat % 2 ^ (c + n) = V) (hz : (z.toInt64.toUInt64 &&& Int64.toUInt64 63).toNat % 64 = c) (hm : m.toBitVec.toNat = 2 ^ n - 1) : (XT.ushrL bb z &&& m).toInt32 = Int32.ofNat (V / 2 ^ c) := by
  have e : XT.ushrL bb z &&& m = Int64.ofNat (V / 2 ^ c) := by
    apply Int64.toBitVec_inj.mp
    apply BitVec.eq_of_toNat_eq
    have e1 : (XT.ushrL bb z).toBitVec.toNat = bb.toBitVec.toNat / 2 ^ c := by
      show (bb.toUInt64 >>> (z.toInt64.toUInt64 &&& Int64.toUInt64 63)).toNat = _
      rw [UInt64.toNat_shiftRight, hz, Nat.shiftRight_eq_div_pow]
      rfl
    show ((XT.ushrL bb z).toBitVec &&& m.toBitVec).toNat = _
    rw [BitVec.toNat_and, hm, Nat.and_two_pow_sub_one_eq_mod, e1, ← hV, Nat.pow_add, Nat.mod_mul_right_div_self]
    show _ = (bb.toBitVec.toNat / 2 ^ c % 2 ^ n) % 2 ^ 64
    have l := bb.toBitVec.isLt
    have l2 : bb.toBitVec.toNat / 2 ^ c ≤ bb.toBitVec.toNat := Nat.div_le_self ..
    have l3 := Nat.mod_le (bb.toBitVec.toNat / 2 ^ c) (2 ^ n)
    rw [Nat.mod_eq_of_lt (a := bb.toBitVec.toNat / 2 ^ c % 2 ^ n) (by omega)]
  rw [e]
  exact Int64.toInt32_ofNat' ..
theorem own_low {B c n V : Nat} (hV : B % 2 ^ (c + n) = V) : B % 2 ^ c = V % 2 ^ c := by
  rw [← hV, Nat.mod_mod_of_dvd _ (Nat.pow_dvd_pow 2 (Nat.le_add_right ..))]
abbrev Bz (blk : Value) (ip j N c : Nat) (bb : Int64) (tl : List (String × String × Value)) : GCell := ob "com/example/deltaweave/deltaweave/format/Bzip2InputStream" (("block", "[I", blk) :: ("input", "[B", .ref ip) :: ("inputNext", "I", .int (Int32.ofNat j)) :: ("inputEnd", "I", .int (Int32.ofNat N)) :: ("bitCount", "I", .int (Int32.ofNat c)) :: ("bitBuffer", "J", .long bb) :: tl)
theorem own_fstep {us vs : List Value} {f t : Nat} {z : Int32} (hl : us.length = vs.length) (ht : t < vs.length) (hf : f ≤ t) (h : ∀ i, us[i]? = if f ≤ i ∧ i < t then some (Value.int z) else vs[i]?) : ∀ i, (us.set t (.int z))[i]? = if f ≤ i ∧ i < t + 1 then some (Value.int z) else vs[i]? := by
  intro i
  rw [List.getElem?_set]
  by_cases e : t = i
  · subst e
    rw [if_pos rfl, if_pos (by omega), if_pos (by omega)]
  · rw [if_neg e, h]
    by_cases g : f ≤ i ∧ i < t
    · rw [if_pos g, if_pos (by omega)]
    · rw [if_neg g, if_neg (by omega)]
theorem own_inc1 {x : Int32} {k : Nat} (h : x.toInt = (k : Int)) (u : k ≤ 1000000) : (x + 1).toInt = ((k + 1 : Nat) : Int) := by
  have k1 : (1 : Int32).toInt = 1 := rfl
  have e := c_iadd x 1
  have l1 := Int32.le_toInt (x + 1)
  have l2 := Int32.toInt_lt (x + 1)
  omega
theorem own_cp {vs : List Value} (hi : ∀ (i : Nat) (u : Value), vs[i]? = some u → ∃ x : Int32, u = .int x) {n : Nat} : ∀ t, t < min vs.length n → ∃ x : Int32, vs[0 + t]? = some (.int x) ∧ fits .int (.int x) = true := by
  intro t ht
  have h : vs[t]? = some vs[t] := List.getElem?_eq_getElem (by omega)
  obtain ⟨x, hx⟩ := hi t _ h
  exact ⟨x, by rw [Nat.zero_add, h, hx], rfl⟩
theorem own_cpv {vs zs : List Value} {n : Nat} (hz : zs.length = n) : ∀ j, (vs.take (min vs.length n) ++ zs.drop (min vs.length n))[j]? = if 0 ≤ j ∧ j < 0 + min vs.length n then vs[0 + (j - 0)]? else zs[j]? := by
  intro j
  have hl : (vs.take (min vs.length n)).length = min vs.length n := by rw [List.length_take]; omega
  rw [List.getElem?_append, hl]
  by_cases h : j < min vs.length n
  · rw [if_pos h, if_pos (by omega), List.getElem?_take_of_lt h]; congr 1; omega
  · rw [if_neg h, if_neg (by omega), List.getElem?_drop]; congr 1; omega
theorem own_cpl {vs zs : List Value} {n : Nat} (hz : zs.length = n) : (vs.take (min vs.length n) ++ zs.drop (min vs.length n)).length = n := by
  rw [List.length_append, List.length_take, List.length_drop]; omega
theorem own_cpw {vs zs : List Value} {n : Nat} (hz : zs.length = n) (hzs : List.replicate n (Value.int 0) = zs) : ∀ i, (vs.take (min vs.length n) ++ zs.drop (min vs.length n))[i]? = if i < n ∧ i < vs.length then vs[i]? else if i < n then some (.int 0) else none := by
  intro i
  rw [own_cpv hz i]
  by_cases h : i < n ∧ i < vs.length
  · rw [if_pos (by omega), if_pos h, Nat.zero_add, Nat.sub_zero]
  · rw [if_neg (by omega), if_neg h, ← hzs, List.getElem?_replicate]
theorem own_setlast {H : List GCell} {x y : GCell} : (H ++ [x]).set H.length y = H ++ [y] := by simp
abbrev Tl (lim sc en bn bcr bl po br cr lb eb rp : Int32) : List (String × String × Value) := [("blockSizeLimit", "I", .int lim), ("streamCrc", "I", .int sc), ("ended", "Z", .int en), ("blockNumber", "I", .int bn), ("blockCrc", "I", .int bcr), ("blockLength", "I", .int bl), ("position", "I", .int po), ("blockRead", "I", .int br), ("crc", "I", .int cr), ("lastByte", "I", .int lb), ("equalBytes", "I", .int eb), ("repeats", "I", .int rp)]
abbrev HT (q : Nat) (w0 w1 w2 w3 w4 : Value) : GCell := ob "com/example/deltaweave/deltaweave/format/Bzip2InputStream$HuffmanTable" [("this$0", "Lcom/example/deltaweave/deltaweave/format/Bzip2InputStream;", .ref q), ("lookup", "[I", w0), ("firstCode", "[I", w1), ("codeCount", "[I", w2), ("firstIndex", "[I", w3), ("symbolsByCode", "[I", w4)]
theorem own_gl {H : List GCell} {q : Nat} {X m : GCell} : (H.set q X ++ [m])[H.length]? = some m := by
  rw [List.getElem?_append_right (by simp)]; simp
theorem own_setlast2 {H : List GCell} {q : Nat} {X x y : GCell} : (H.set q X ++ [x]).set H.length y = H.set q X ++ [y] := by
  rw [List.set_append_right _ _ (by simp)]; simp
theorem own_app {lim z1 z2 z3 : Int32} (h : 100000 ≤ lim.toInt) (h1 : z1.toInt = max ((0 : Int32) + 1).toInt (65536 : Int32).toInt) (h2 : z2.toInt = max ((0 : Int32) * 2).toInt z1.toInt) (h3 : z3.toInt = min z2.toInt lim.toInt) : z3 = Int32.ofNat 65536 := by
  have k1 : ((0 : Int32) + 1).toInt = 1 := by decide
  have k2 : (65536 : Int32).toInt = 65536 := by decide
  have k3 : ((0 : Int32) * 2).toInt = 0 := by decide
  have k4 : (Int32.ofNat 65536).toInt = 65536 := by decide
  apply Int32.toInt_inj.mp
  omega
theorem own_lim {lim : Int32} (h : 100000 ≤ lim.toInt) : (1 : Int32).toInt ≤ (lim - 0).toInt := by
  have e : lim - 0 = lim := by simp
  have k1 : (1 : Int32).toInt = 1 := rfl
  rw [e]; omega
theorem own_ints {cs : List Value} {i : Nat} {x : Int32} (h : ∀ k, k < 256 → ∃ x : Int32, cs[k]? = some (.int x)) : ∀ k, k < 256 → ∃ x' : Int32, (cs.set i (.int x))[k]? = some (.int x') := by
  intro k hk
  rw [List.getElem?_set]
  obtain ⟨y, hy⟩ := h k hk
  have hl := (List.getElem?_eq_some_iff.mp hy).1
  by_cases e : i = k
  · subst e; exact ⟨x, by rw [if_pos rfl, if_pos hl]⟩
  · exact ⟨y, by rw [if_neg e]; exact hy⟩
theorem own_zero {cs : List Value} {i : Nat} {sm : Int32} (hl : cs.length = 256) (hi : i < 256) (h0 : 0 < i → cs[0]? = some (.int 0)) (hs : i = 0 → sm = 0) : (cs.set i (.int sm))[0]? = some (.int 0) := by
  rw [List.getElem?_set]
  by_cases e : i = 0
  · rw [if_pos e, if_pos (by omega), hs e]
  · rw [if_neg e]; exact h0 (by omega)
theorem own_zz (K : Nat) (h : 20 ≤ K) (h2 : K ≤ 27) : ((Int32.ofNat K - 20).toInt64.toUInt64 &&& Int64.toUInt64 63).toNat % 64 = K - 20 := by
  have : ∀ K : Fin 28, 20 ≤ K.val → ((Int32.ofNat K.val - 20).toInt64.toUInt64 &&& Int64.toUInt64 63).toNat % 64 = K.val - 20 := by decide
  exact this ⟨K, by omega⟩ h
theorem own_zs (K : Nat) (h : K < 20) : (((20 - Int32.ofNat K).toInt64 &&& 63).toBitVec.smod 64).toNat = 20 - K := by
  have : ∀ K : Fin 20, (((20 - Int32.ofNat K.val).toInt64 &&& 63).toBitVec.smod 64).toNat = 20 - K.val := by decide
  exact this ⟨K, h⟩
theorem own_winA {bb : Int64} {K V p : Nat} (hV : bb.toBitVec.toNat % 2 ^ K = V) (h : 20 ≤ K) (h2 : K ≤ 27) (hp : V / 2 ^ (K - 2) = p) : ∃ W, W < 2 ^ 20 ∧ W / 2 ^ 18 = p ∧ (XT.ushrL bb (Int32.ofNat K - 20) &&& 1048575).toInt32 = Int32.ofNat W := by
  have e : K - 20 + 20 = K := by omega
  refine ⟨V / 2 ^ (K - 20), ?_, ?_, own_take (n := 20) (by rw [e]; exact hV) (own_zz K h h2) (by decide)⟩
  · have hlt : V < 2 ^ (K - 20) * 2 ^ 20 := by rw [← Nat.pow_add, e, ← hV]; exact Nat.mod_lt _ (Nat.pow_pos (by decide))
    exact Nat.div_lt_of_lt_mul hlt
  · rw [Nat.div_div_eq_div_mul, ← Nat.pow_add, show K - 20 + 18 = K - 2 by omega]; exact hp
theorem own_winB {bb : Int64} {K V p : Nat} (hV : bb.toBitVec.toNat % 2 ^ K = V) (h : 2 ≤ K) (h2 : K < 20) (hp : V / 2 ^ (K - 2) = p) : ∃ W, W < 2 ^ 20 ∧ W / 2 ^ 18 = p ∧ (bb <<< ((20 - Int32.ofNat K).toInt64 &&& 63) &&& 1048575).toInt32 = Int32.ofNat W := by
  have p1 : 2 ^ K * 2 ^ (20 - K) = 2 ^ 20 := by rw [← Nat.pow_add]; congr 1; omega
  have hlt : V < 2 ^ K := by rw [← hV]; exact Nat.mod_lt _ (Nat.pow_pos (by decide))
  refine ⟨V * 2 ^ (20 - K), ?_, ?_, ?_⟩
  · rw [← p1]; exact Nat.mul_lt_mul_of_pos_right hlt (Nat.pow_pos (by decide))
  · rw [← hp, show 18 = (K - 2) + (20 - K) by omega, Nat.pow_add, Nat.mul_comm (2 ^ (K - 2)), ← Nat.div_div_eq_div_mul, Nat.mul_div_cancel _ (Nat.pow_pos (by decide))]
  · have e : bb <<< ((20 - Int32.ofNat K).toInt64 &&& 63) &&& 1048575 = Int64.ofNat (V * 2 ^ (20 - K)) := by
      apply Int64.toBitVec_inj.mp
      apply BitVec.eq_of_toNat_eq
      have e1 : (bb <<< ((20 - Int32.ofNat K).toInt64 &&& 63)).toBitVec.toNat = bb.toBitVec.toNat * 2 ^ (20 - K) % 2 ^ 64 := by
        show (bb.toBitVec <<< (((20 - Int32.ofNat K).toInt64 &&& 63).toBitVec.smod 64)).toNat = _
        rw [BitVec.shiftLeft_eq', own_zs K h2, BitVec.toNat_shiftLeft, Nat.shiftLeft_eq]
      show ((bb <<< ((20 - Int32.ofNat K).toInt64 &&& 63)).toBitVec &&& (1048575 : Int64).toBitVec).toNat = (V * 2 ^ (20 - K)) % 2 ^ 64
      rw [BitVec.toNat_and, e1, show (1048575 : Int64).toBitVec.toNat = 2 ^ 20 - 1 from by decide, Nat.and_two_pow_sub_one_eq_mod, Nat.mod_mod_of_dvd _ (show 2 ^ 20 ∣ 2 ^ 64 from Nat.pow_dvd_pow 2 (by decide)), ← p1, Nat.mul_mod_mul_right, hV]
      have : V * 2 ^ (20 - K) < 2 ^ K * 2 ^ (20 - K) := Nat.mul_lt_mul_of_pos_right hlt (Nat.pow_pos (by decide))
      rw [p1] at this
      rw [Nat.mod_eq_of_lt (by omega)]
    rw [e]
    exact Int64.toInt32_ofNat' ..
theorem own_idx {W : Nat} (h : W < 2 ^ 20) : (XT.ushr (Int32.ofNat W) 10).toInt = ((W / 1024 : Nat) : Int) := by
  have e := c_iushr (Int32.ofNat W) 10 10 (by decide) (by decide)
  have e2 : XT.ushr (Int32.ofNat W) 10 = ((Int32.ofNat W).toUInt32 >>> ((10 : Int32) &&& 31).toUInt32).toInt32 := rfl
  rw [e2, e, own_ti (by omega)]
  have : (((2 : Nat) ^ 10 : Nat) : Int) = 1024 := rfl
  omega
theorem own_one {ws : List Value} {a : Value} (h : ws.length = 1) (h0 : ws[0]? = some a) : ws = [a] := by
  match ws, h with
  | [x], _ => simp only [List.getElem?_cons_zero, Option.some.injEq] at h0; rw [h0]
theorem own_zi {zs : List Value} {k n : Nat} {x : Int32} (hzs : List.replicate n (Value.int 0) = zs) : ∀ (i : Nat) (u : Value), (zs.set k (.int x))[i]? = some u → ∃ x : Int32, u = .int x := by
  intro i u h
  rw [← hzs, List.getElem?_set, List.getElem?_replicate] at h
  split at h
  · split at h
    · exact ⟨x, (Option.some.inj h).symm⟩
    · cases h
  · split at h
    · exact ⟨0, (Option.some.inj h).symm⟩
    · cases h
theorem own_cp0 {ds : List Value} {vs : List Value} {dp sp : Nat} : ∀ j, ds[j]? = if dp ≤ j ∧ j < dp + 0 then vs[sp + (j - dp)]? else ds[j]? := fun j => by rw [if_neg (by omega)]
def isI : Value → Bool
  | .int _ => true
  | _ => false
theorem own_all : ∀ {vs : List Value}, vs.all isI = true → ∀ v ∈ vs, ∃ x : Int32, v = .int x
  | [], _, v, hv => by cases hv
  | u :: us, h, v, hv => by
    simp only [List.all_cons, Bool.and_eq_true] at h
    rcases List.mem_cons.mp hv with rfl | hv
    · cases v <;> simp [isI] at h
      exact ⟨_, rfl⟩
    · exact own_all h.2 v hv
def LkOk (lv : List Value) : Prop := (∀ i, i < 256 → lv[i]? = some (.int 2)) ∧ (∀ i, 512 ≤ i → i < 768 → lv[i]? = some (.int 66))
theorem own_acc : ∀ (xs : List Int32) (v : Nat), ∃ r, r < 256 ^ xs.length ∧ accL v xs = v * 256 ^ xs.length + r
  | [], v => ⟨0, by simp, by simp [accL]⟩
  | x :: xs, v => by
    obtain ⟨r, h1, h2⟩ := own_acc xs (v * 256 + (x &&& 255).toInt.toNat)
    have h3 := (own_and255 x).2
    refine ⟨(x &&& 255).toInt.toNat * 256 ^ xs.length + r, ?_, ?_⟩
    · rw [List.length_cons, Nat.pow_succ]
      have : ((x &&& 255).toInt.toNat + 1) * 256 ^ xs.length ≤ 256 * 256 ^ xs.length := Nat.mul_le_mul_right _ (by omega)
      rw [Nat.add_mul] at this
      omega
    · rw [accL, h2, List.length_cons, Nat.pow_succ, Nat.add_mul, Nat.mul_assoc, Nat.mul_comm 256, Nat.add_assoc]
theorem own_N1 {vs : List Value} {j : Nat} {x : Int32} {xs : List Int32} (h : Nx vs j (x :: xs)) : Nx vs j [x] := ⟨h.1, trivial⟩
theorem own_N2 {vs : List Value} {j : Nat} {x y : Int32} {xs : List Int32} (h : Nx vs j (x :: y :: xs)) : Nx vs j [x, y] := ⟨h.1, h.2.1, trivial⟩
theorem own_lv {L : Nat} {x : Int32} (h : L ≤ 8) (hx : x = Int32.ofNat (49 + L) - 48) : x.toInt = (L : Int) + 1 := by
  subst hx
  have e := c_isub (Int32.ofNat (49 + L)) 48
  have k1 : (48 : Int32).toInt = 48 := rfl
  have l1 := Int32.le_toInt (Int32.ofNat (49 + L) - 48)
  have l2 := Int32.toInt_lt (Int32.ofNat (49 + L) - 48)
  have k2 := own_ti (j := 49 + L) (by omega)
  omega
theorem own_lim2 {L : Nat} {x : Int32} (h : L ≤ 8) (hx : x.toInt = (L : Int) + 1) : 100000 ≤ (x * 100000).toInt := by
  have e := c_imul x 100000
  have k1 : (100000 : Int32).toInt = 100000 := rfl
  rw [k1, hx] at e
  have l1 := Int32.le_toInt (x * 100000)
  have l2 := Int32.toInt_lt (x * 100000)
  have c9 : L = 0 ∨ L = 1 ∨ L = 2 ∨ L = 3 ∨ L = 4 ∨ L = 5 ∨ L = 6 ∨ L = 7 ∨ L = 8 := by omega
  rcases c9 with rfl | rfl | rfl | rfl | rfl | rfl | rfl | rfl | rfl <;> omega
theorem own_un {j t : Nat} : Int32.ofNat (j + t) - Int32.ofNat j + Int32.ofNat 0 / 8 = Int32.ofNat t := by
  have e : Int32.ofNat 0 / 8 = 0 := by decide
  rw [e, Int32.add_zero, Int32.ofNat_add, Int32.add_comm, Int32.add_sub_cancel]
theorem own_nat {x : Int32} (h0 : 0 ≤ x.toInt) (h : x.toInt ≤ 1000) : ∃ o : Nat, x = Int32.ofNat o ∧ (o : Int) = x.toInt := by
  refine ⟨x.toInt.toNat, ?_, by omega⟩
  apply Int32.toInt_inj.mp
  rw [own_ti (by omega)]; omega
theorem own_o15 (x : Int32) : ∃ o : Nat, x &&& 15 = Int32.ofNat o ∧ o ≤ 15 := by
  have h := c_and x 15 (by decide)
  have k : (15 : Int32).toInt = 15 := rfl
  obtain ⟨o, h1, h2⟩ := own_nat h.1 (by omega)
  exact ⟨o, h1, by omega⟩
theorem own_rem9 (x z : Int32) (k : Nat) (hk : z.toBitVec.toNat % 32 = k) (h0 : 0 < k) : ∃ L : Nat, XT.ushr x z % 9 = Int32.ofNat L ∧ L ≤ 8 := by
  have e : XT.ushr x z = (x.toUInt32 >>> (z &&& 31).toUInt32).toInt32 := rfl
  have e1 := c_iushr x z k hk h0
  rw [← e] at e1
  have h1 : 0 ≤ (XT.ushr x z).toInt := by rw [e1]; exact Int.ediv_nonneg (by omega) (Int.natCast_nonneg _)
  have h := (c_iremV (XT.ushr x z) 9).1 h1 (by decide)
  have k9 : (9 : Int32).toInt = 9 := rfl
  obtain ⟨L, h2, h3⟩ := own_nat (x := XT.ushr x z % 9) h.1 (by omega)
  exact ⟨L, h2, by omega⟩
theorem own_oi {o i : Nat} {z : Int32} (hz : z.toInt = (i : Int)) (ho : o + i ≤ 1000) : (Int32.ofNat o + z).toInt = ((o + i : Nat) : Int) := by
  have e := c_iadd (Int32.ofNat o) z
  have l1 := Int32.le_toInt (Int32.ofNat o + z)
  have l2 := Int32.toInt_lt (Int32.ofNat o + z)
  have k := own_ti (j := o) (by omega)
  omega
theorem own_snoc {vs : List Value} {x : Int32} : ∀ (xs : List Int32) (o : Nat), Nx vs o xs → o + xs.length < vs.length → Nx (vs.set (o + xs.length) (.int x)) o (xs ++ [x])
  | [], o, _, h => ⟨by simp only [List.length_nil, Nat.add_zero] at h ⊢; rw [List.getElem?_set, if_pos rfl, if_pos h], trivial⟩
  | y :: ys, o, h, hl => by
    refine ⟨?_, ?_⟩
    · rw [List.getElem?_set, if_neg (by simp only [List.length_cons]; omega)]; exact h.1
    · have := own_snoc (x := x) ys (o + 1) h.2 (by simp only [List.length_cons] at hl; omega)
      have e : o + (y :: ys).length = o + 1 + ys.length := by simp only [List.length_cons]; omega
      rw [e]; exact this
section Put
variable {p : Program} {l : Launch} {e : Env} {R : Room} {s : State} {m : MethodId} {args : Array Value} {below : List Frame} {meth : Method} {c : Code} {Z : State} {a0 : Array Value} {W : List Jvm.Cond} {b : Nat} {y : MethodName} {bytes : ByteArray} {nL : Nat} {ret : Option FieldType} {Post : Option Value → List GCell → Prop} {C : Cx p l e R s m args below meth c Z a0 W b y bytes nL ret Post} {pc nx : Nat} {L : List Slot} {S : List Value} {cells slots : Nat}
theorem own_bput {vs : List Value} {x j : Int32} {o kk : Nat} {xs : List Int32} (hd : Dc bytes pc .bastore 1 nx) (hl : vs.length = 50) (hX : Nx vs o xs) (hk : xs.length = kk) (hj : j.toInt = ((o + kk : Nat) : Int)) (hk2 : o + kk < 50)
    (h : ∀ vs', vs'.length = 50 → Nx vs' o (xs ++ [x.toInt8.toInt32]) → Go C nx L S [ar .byte vs'] cells slots) : Go C pc L (.int x :: .int j :: .ref 0 :: S) [ar .byte vs] cells slots := by
  subst hk
  exact go_bastore hd rfl hj (by omega) (h _ (by rw [List.length_set]; exact hl) (own_snoc xs o hX (by omega)))
end Put
theorem own_lvb {L : Nat} (h : L ≤ 8) : accL 0 [(49 + Int32.ofNat L).toInt8.toInt32.toInt8.toInt32] / 2 ^ 0 = 49 + L := by
  have : ∀ L : Fin 9, accL 0 [(49 + Int32.ofNat L.val).toInt8.toInt32.toInt8.toInt32] / 2 ^ 0 = 49 + L.val := by decide
  exact this ⟨L, by omega⟩
theorem own_cut {vs : List Value} : ∀ (xs ys : List Int32) (o : Nat), Nx vs o (xs ++ ys) → Nx vs o xs
  | [], _, _, _ => trivial
  | x :: xs, ys, o, h => ⟨h.1, own_cut xs ys (o + 1) h.2⟩

set_option maxRecDepth 65536 in
set_option maxHeartbeats 4000000 in
theorem c_fill {l : Launch} {Z : State} {a0 : Array Value} {b : Nat} (hw : ∀ d ∈ tables_1, d.before a0 Z = true) {H : List GCell} {q ip j N k n v : Nat} {bb : Int64} {blk : Value} {tl : List (String × String × Value)} (hq : H[q]? = some (Bz blk ip j N k bb tl)) {vs : List Value} {xs : List Int32} (hi : H[ip]? = some (ar .byte vs)) (hx : Nx vs j xs) (hv : bb.toBitVec.toNat % 2 ^ k = v) (h1 : ∀ i, i < xs.length → k + 8 * i < n) (h2 : j + xs.length ≤ N) (h3 : n ≤ k + 8 * xs.length ∨ j + xs.length = N) (hc : k ≤ 40) (hN : N ≤ 1000) (hn : n ≤ 32) :
    Met l Z a0 b (⟨"com/example/deltaweave/deltaweave/format/Bzip2InputStream", "fill", "(I)V"⟩ : MethodName) prog_14_method_16_code 2 none ({ frames := 0, cells := 0, slots := 0, locals := 0 } : Room) [.ref q, .int (Int32.ofNat n)] H (fun r H' => r = none ∧ ∃ bb' : Int64, bb'.toBitVec.toNat % 2 ^ (k + 8 * xs.length) = accL v xs ∧ H' = H.set q (Bz blk ip (j + xs.length) N (k + 8 * xs.length) bb' tl)) := by
  refine Met.of_go hw (plainFor_of_name pn_2) (L0 := [.val (.ref q), .val (.int (Int32.ofNat n))]) rfl ?_
  intro p e s m args below meth c C
  have loop : ∀ (xs' : List Int32) (j' c' v' : Nat) (bb' : Int64), Nx vs j' xs' → bb'.toBitVec.toNat % 2 ^ c' = v' → (∀ i, i < xs'.length → c' + 8 * i < n) → j' + xs'.length ≤ N → (n ≤ c' + 8 * xs'.length ∨ j' + xs'.length = N) → c' ≤ 40 → j' + xs'.length = j + xs.length → c' + 8 * xs'.length = k + 8 * xs.length → accL v' xs' = accL v xs → Go C 0 [.val (.ref q), .val (.int (Int32.ofNat n))] [] (H.set q (Bz blk ip j' N c' bb' tl)) 0 0 := by
    intro xs'
    induction xs' with
    | nil =>
      intro j' c' v' bb' hx' hv' g1 g2 g3 g4 e1 e2 e3
      simp only [List.length_nil, Nat.mul_zero, Nat.add_zero] at g2 g3 e1 e2
      simp only [accL] at e3
      rw [e3] at hv'
      refine go_aloadN e5_0 rfl rfl ?_
      refine go_getfield e5_1 (wd 32 rfl) (get_eq hq) (j := 4) rfl ?_
      refine go_iloadN e5_4 rfl ?_
      refine go_icge e5_5 (tg := 66) (by decide) ?_ ?_
      · intro c5
        refine go_return e5_66 rfl (by decide) (by decide) ?_
        exact ⟨rfl, bb', by rw [← e2]; exact hv', by rw [← e1, ← e2]⟩
      · intro c5
        refine go_aloadN e5_8 rfl rfl ?_
        refine go_getfield e5_9 (wd 20 rfl) (get_eq hq) (j := 2) rfl ?_
        refine go_aloadN e5_12 rfl rfl ?_
        refine go_getfield e5_13 (wd 22 rfl) (get_eq hq) (j := 3) rfl ?_
        refine go_icgeY e5_16 (tg := 66) (by decide) (by rw [own_ti (by omega), own_ti (by omega)]; rw [own_ti (by omega), own_ti (by omega)] at c5; omega) ?_
        refine go_return e5_66 rfl (by decide) (by decide) ?_
        exact ⟨rfl, bb', by rw [← e2]; exact hv', by rw [← e1, ← e2]⟩
    | cons x xs' ih =>
      intro j' c' v' bb' hx' hv' g1 g2 g3 g4 e1 e2 e3
      simp only [List.length_cons] at g2 g3 e1 e2
      have g0 := g1 0 (by simp)
      have e1' : Int32.ofNat j' + 1 = Int32.ofNat (j' + 1) := by rw [Int32.ofNat_add]; rfl
      have e8' : Int32.ofNat c' + 8 = Int32.ofNat (c' + 8) := by rw [Int32.ofNat_add]; rfl
      refine go_aloadN e5_0 rfl rfl ?_
      refine go_getfield e5_1 (wd 32 rfl) (get_eq hq) (j := 4) rfl ?_
      refine go_iloadN e5_4 rfl ?_
      refine go_icgeN e5_5 (tg := 66) (by decide) (by rw [own_ti (by omega), own_ti (by omega)]; omega) ?_
      refine go_aloadN e5_8 rfl rfl ?_
      refine go_getfield e5_9 (wd 20 rfl) (get_eq hq) (j := 2) rfl ?_
      refine go_aloadN e5_12 rfl rfl ?_
      refine go_getfield e5_13 (wd 22 rfl) (get_eq hq) (j := 3) rfl ?_
      refine go_icgeN e5_16 (tg := 66) (by decide) (by rw [own_ti (by omega), own_ti (by omega)]; omega) ?_
      refine go_aloadN e5_19 rfl rfl ?_
      refine go_aloadN e5_20 rfl rfl ?_
      refine go_getfield e5_21 (wd 34 rfl) (get_eq hq) (j := 5) rfl ?_
      refine go_bipush e5_24 (x := 8) rfl ?_
      refine go_lshl e5_26 ?_
      refine go_aloadN e5_27 rfl rfl ?_
      refine go_getfield e5_28 (wd 18 rfl) (get_eq hq) (j := 1) rfl ?_
      refine go_aloadN e5_31 rfl rfl ?_
      refine go_dup e5_32 rfl ?_
      refine go_getfield e5_33 (wd 20 rfl) (get_eq hq) (j := 2) rfl ?_
      refine go_dupX1 e5_36 rfl rfl ?_
      refine go_iconst e5_37 (x := 1) rfl ?_
      refine go_iadd e5_38 ?_
      refine go_putfield e5_39 (wd 20 rfl) (Or.inl (wd 21 rfl)) (wd 2 rfl) pf_0 (get_eq hq) (j := 2) rfl rfl rfl ?_
      rw [List.set_set, e1']
      refine go_baload e5_42 (get_ne hi (ne_oa hq hi)) (k := j') (own_ti (by omega)) hx'.1 ?_
      refine go_sipush e5_43 (x := 255) rfl ?_
      refine go_iand e5_46 ?_
      refine go_i2l e5_47 ?_
      refine go_lor e5_48 ?_
      refine go_putfield e5_49 (wd 34 rfl) (Or.inl (wd 35 rfl)) (wd 2 rfl) pf_1 (get_eq hq) (j := 5) rfl rfl rfl ?_
      rw [List.set_set]
      refine go_aloadN e5_52 rfl rfl ?_
      refine go_dup e5_53 rfl ?_
      refine go_getfield e5_54 (wd 32 rfl) (get_eq hq) (j := 4) rfl ?_
      refine go_bipush e5_57 (x := 8) rfl ?_
      refine go_iadd e5_59 ?_
      refine go_putfield e5_60 (wd 32 rfl) (Or.inl (wd 33 rfl)) (wd 2 rfl) pf_0 (get_eq hq) (j := 4) rfl rfl rfl ?_
      rw [List.set_set, e8']
      refine go_goto e5_63 (tg := 0) (by decide) ?_
      exact ih (j' + 1) (c' + 8) _ _ hx'.2 (own_push x hv' (by omega)) (fun i hi => by have := g1 (i + 1) (by simp only [List.length_cons]; omega); omega) (by omega) (by omega) (by omega) (by omega) (by omega) e3
  have h0 := loop xs j k v bb hx hv h1 h2 h3 hc rfl rfl rfl
  rw [set_same hq] at h0
  exact h0
set_option maxRecDepth 65536 in
set_option maxHeartbeats 4000000 in
theorem c_cons {l : Launch} {Z : State} {a0 : Array Value} {b : Nat} (hw : ∀ d ∈ tables_1, d.before a0 Z = true) {H : List GCell} {q ip j N k n : Nat} {bb : Int64} {blk : Value} {tl : List (String × String × Value)} (hq : H[q]? = some (Bz blk ip j N k bb tl)) (h : n ≤ k) (hc : k ≤ 1000) :
    Met l Z a0 b (⟨"com/example/deltaweave/deltaweave/format/Bzip2InputStream", "consume", "(I)V"⟩ : MethodName) prog_14_method_15_code 2 none ({ frames := 0, cells := 0, slots := 0, locals := 0 } : Room) [.ref q, .int (Int32.ofNat n)] H (fun r H' => r = none ∧ H' = H.set q (Bz blk ip j N (k - n) bb tl)) := by
  refine Met.of_go hw (plainFor_of_name pn_2) (L0 := [.val (.ref q), .val (.int (Int32.ofNat n))]) rfl ?_
  intro p e s m args below meth c C
  refine go_aloadN e6_0 rfl rfl ?_
  refine go_getfield e6_1 (wd 32 rfl) hq (j := 4) rfl ?_
  refine go_iloadN e6_4 rfl ?_
  refine go_icgeY e6_5 (tg := 18) (by decide) (by rw [own_ti (by omega), own_ti (by omega)]; omega) ?_
  refine go_aloadN e6_18 rfl rfl ?_
  refine go_dup e6_19 rfl ?_
  refine go_getfield e6_20 (wd 32 rfl) hq (j := 4) rfl ?_
  refine go_iloadN e6_23 rfl ?_
  refine go_isub e6_24 ?_
  refine go_putfield e6_25 (wd 32 rfl) (Or.inl (wd 33 rfl)) (wd 2 rfl) pf_0 hq (j := 4) rfl rfl rfl ?_
  refine go_return e6_28 rfl (by decide) (by decide) ?_
  exact ⟨rfl, by rw [← Int32.ofNat_sub _ _ h]; rfl⟩
set_option maxRecDepth 65536 in
set_option maxHeartbeats 4000000 in
theorem c_bits {l : Launch} {Z : State} {a0 : Array Value} {b : Nat} (hw : ∀ d ∈ tables_1, d.before a0 Z = true) {H : List GCell} {q ip j N k n v : Nat} {bb : Int64} {blk : Value} {tl : List (String × String × Value)} (hq : H[q]? = some (Bz blk ip j N k bb tl)) {k2 : Nat} {vs : List Value} {xs : List Int32} (hi : H[ip]? = some (ar .byte vs)) (hx : Nx vs j xs) (hv : bb.toBitVec.toNat % 2 ^ k = v) (h1 : ∀ i, i < xs.length → k + 8 * i < n) (h2 : j + xs.length ≤ N) (hc2 : k + 8 * xs.length = k2 + n) (hc : k ≤ 40) (hN : N ≤ 1000) (hn : n ≤ 32) (hm : ((1 : Int64) <<< ((Int32.ofNat n).toInt64 &&& 63) - 1).toBitVec.toNat = 2 ^ n - 1) (hz : ((Int32.ofNat k2).toInt64.toUInt64 &&& Int64.toUInt64 63).toNat % 64 = k2) (hc3 : k2 ≤ 900) {R V2 j2 : Nat} (hR : accL v xs / 2 ^ k2 = R) (hV2 : accL v xs % 2 ^ k2 = V2) (hj2 : j + xs.length = j2) :
    Met l Z a0 b (⟨"com/example/deltaweave/deltaweave/format/Bzip2InputStream", "readBits", "(I)I"⟩ : MethodName) prog_14_method_14_code 2 (some .int) ({ frames := 1, cells := 0, slots := 0, locals := 13 } : Room) [.ref q, .int (Int32.ofNat n)] H (fun r H' => ∃ u, r = some u ∧ (∃ bb' : Int64, u = .int (Int32.ofNat R) ∧ bb'.toBitVec.toNat % 2 ^ k2 = V2 ∧ H' = H.set q (Bz blk ip j2 N k2 bb' tl))) := by
  subst hR hV2 hj2
  refine Met.of_go hw (plainFor_of_name pn_2) (L0 := [.val (.ref q), .val (.int (Int32.ofNat n))]) rfl ?_
  intro p e s m args below meth c C
  refine go_aloadN e4_0 rfl rfl ?_
  refine go_iloadN e4_1 rfl ?_
  refine go_privateV_1 e4_2 (Or.inl (wd 28 rfl)) (wd 30 rfl) (wd 2 rfl) (wd 29 rfl) (wd 31 rfl) (wd 3 rfl) hy_3 pd_4 rfl (c_fill hw hq hi hx hv h1 h2 (Or.inl (by omega)) hc hN hn) hq rfl 0 rfl (by decide) (by decide) (by decide) (by decide) ?_
  rintro _ ⟨b1, hb1, rfl⟩
  rw [hc2]
  refine go_aloadN e4_5 rfl rfl ?_
  refine go_iloadN e4_6 rfl ?_
  refine go_privateV_1 e4_7 (Or.inl (wd 36 rfl)) (wd 38 rfl) (wd 2 rfl) (wd 37 rfl) (wd 39 rfl) (wd 3 rfl) hy_3 pd_4 rfl (c_cons hw (get_eq hq) (Nat.le_add_left ..) (by omega)) (get_eq hq) rfl 0 rfl (by decide) (by decide) (by decide) (by decide) ?_
  rintro _ rfl
  rw [List.set_set, Nat.add_sub_cancel]
  refine go_aloadN e4_10 rfl rfl ?_
  refine go_getfield e4_11 (wd 34 rfl) (get_eq hq) (j := 5) rfl ?_
  refine go_aloadN e4_14 rfl rfl ?_
  refine go_getfield e4_15 (wd 32 rfl) (get_eq hq) (j := 4) rfl ?_
  refine go_lushr e4_18 ?_
  refine go_lconst e4_19 (x := 1) rfl ?_
  refine go_iloadN e4_20 rfl ?_
  refine go_lshl e4_21 ?_
  refine go_lconst e4_22 (x := 1) rfl ?_
  refine go_lsub e4_23 ?_
  refine go_land e4_24 ?_
  refine go_l2i e4_25 ?_
  refine go_ireturn e4_26 rfl (by decide) (by decide) ?_
  rw [hc2] at hb1
  exact ⟨_, rfl, b1, by rw [own_take hb1 hz hm], own_low hb1, rfl⟩
set_option maxRecDepth 65536 in
set_option maxHeartbeats 4000000 in
theorem c_rng {l : Launch} {Z : State} {a0 : Array Value} {b : Nat} (hw : ∀ d ∈ tables_1, d.before a0 Z = true) {H : List GCell} {x y z : Int32} (h1 : y.toInt ≤ z.toInt) (h2 : 0 ≤ y.toInt) (h3 : z.toInt ≤ x.toInt) :
    Met l Z a0 b (⟨"java/util/Arrays", "rangeCheck", "(III)V"⟩ : MethodName) jdk_65_method_30_code 3 none ({ frames := 0, cells := 0, slots := 0, locals := 0 } : Room) [.int x, .int y, .int z] H (fun r H' => r = none ∧ H' = H) := by
  refine Met.of_go hw (plainFor_of_name pn_5) (L0 := [.val (.int x), .val (.int y), .val (.int z)]) rfl ?_
  intro p e s m args below meth c C
  refine go_iloadN e17_0 rfl ?_
  refine go_iloadN e17_1 rfl ?_
  refine go_icleY e17_2 (tg := 46) (by decide) h1 ?_
  refine go_iloadN e17_46 rfl ?_
  refine go_ifgeY e17_47 (tg := 59) (by decide) h2 ?_
  refine go_iloadN e17_59 rfl ?_
  refine go_iloadN e17_60 rfl ?_
  refine go_icleY e17_61 (tg := 73) (by decide) h3 ?_
  refine go_return e17_73 rfl (by decide) (by decide) ?_
  exact ⟨rfl, rfl⟩
set_option maxRecDepth 65536 in
set_option maxHeartbeats 4000000 in
theorem c_min {l : Launch} {Z : State} {a0 : Array Value} {b : Nat} (hw : ∀ d ∈ tables_1, d.before a0 Z = true) {H : List GCell} {x y : Int32} :
    Met l Z a0 b (⟨"java/lang/Math", "min", "(II)I"⟩ : MethodName) jdk_29_method_69_code 2 (some .int) ({ frames := 0, cells := 0, slots := 0, locals := 0 } : Room) [.int x, .int y] H (fun r H' => ∃ u, r = some u ∧ (∃ z : Int32, u = .int z ∧ z.toInt = min x.toInt y.toInt ∧ H' = H)) := by
  refine Met.of_go hw pn_6 (L0 := [.val (.int x), .val (.int y)]) rfl ?_
  intro p e s m args below meth c C
  refine go_iloadN e12_0 rfl ?_
  refine go_iloadN e12_1 rfl ?_
  refine go_icgt e12_2 (tg := 9) (by decide) ?_ ?_
  · intro c2
    refine go_iloadN e12_9 rfl ?_
    refine go_ireturn e12_10 rfl (by decide) (by decide) ?_
    exact ⟨_, rfl, _, rfl, by omega, rfl⟩
  · intro c2
    refine go_iloadN e12_5 rfl ?_
    refine go_goto e12_6 (tg := 10) (by decide) ?_
    refine go_ireturn e12_10 rfl (by decide) (by decide) ?_
    exact ⟨_, rfl, _, rfl, by omega, rfl⟩
set_option maxRecDepth 65536 in
set_option maxHeartbeats 4000000 in
theorem c_max {l : Launch} {Z : State} {a0 : Array Value} {b : Nat} (hw : ∀ d ∈ tables_1, d.before a0 Z = true) {H : List GCell} {x y : Int32} :
    Met l Z a0 b (⟨"java/lang/Math", "max", "(II)I"⟩ : MethodName) jdk_29_method_65_code 2 (some .int) ({ frames := 0, cells := 0, slots := 0, locals := 0 } : Room) [.int x, .int y] H (fun r H' => ∃ u, r = some u ∧ (∃ z : Int32, u = .int z ∧ z.toInt = max x.toInt y.toInt ∧ H' = H)) := by
  refine Met.of_go hw pn_7 (L0 := [.val (.int x), .val (.int y)]) rfl ?_
  intro p e s m args below meth c C
  refine go_iloadN e20_0 rfl ?_
  refine go_iloadN e20_1 rfl ?_
  refine go_iclt e20_2 (tg := 9) (by decide) ?_ ?_
  · intro c2
    refine go_iloadN e20_9 rfl ?_
    refine go_ireturn e20_10 rfl (by decide) (by decide) ?_
    exact ⟨_, rfl, _, rfl, by omega, rfl⟩
  · intro c2
    refine go_iloadN e20_5 rfl ?_
    refine go_goto e20_6 (tg := 10) (by decide) ?_
    refine go_ireturn e20_10 rfl (by decide) (by decide) ?_
    exact ⟨_, rfl, _, rfl, by omega, rfl⟩
set_option maxRecDepth 65536 in
set_option maxHeartbeats 4000000 in
theorem c_afill {l : Launch} {Z : State} {a0 : Array Value} {b : Nat} (hw : ∀ d ∈ tables_1, d.before a0 Z = true) {H : List GCell} {q f t : Nat} {x y z : Int32} {vs : List Value} (hq : H[q]? = some (ar .int vs)) (hx : x.toInt = (f : Int)) (hy : y.toInt = (t : Int)) (hft : f ≤ t) (htl : t ≤ vs.length) (hl : vs.length ≤ 100000) :
    Met l Z a0 b (⟨"java/util/Arrays", "fill", "([IIII)V"⟩ : MethodName) jdk_65_method_104_code 5 none ({ frames := 1, cells := 0, slots := 0, locals := 14 } : Room) [.ref q, .int x, .int y, .int z] H (fun r H' => r = none ∧ ∃ us : List Value, us.length = vs.length ∧ (∀ i, us[i]? = if f ≤ i ∧ i < t then some (Value.int z) else vs[i]?) ∧ H' = H.set q (ar .int us)) := by
  refine Met.of_go hw (plainFor_of_name pn_5) (L0 := [.val (.ref q), .val (.int x), .val (.int y), .val (.int z), .unset]) rfl ?_
  intro p e s m args below meth c C
  have loop : ∀ (r d : Nat) (gi : Int32) (us : List Value), d + r = t → gi.toInt = (d : Int) → us.length = vs.length → (∀ i, us[i]? = if f ≤ i ∧ i < d then some (Value.int z) else vs[i]?) → f ≤ d → Go C 10 [.val (.ref q), .val (.int x), .val (.int y), .val (.int z), .val (.int gi)] [] (H.set q (ar .int us)) 0 0 := by
    intro r
    induction r with
    | zero =>
      intro d gi us hd hgi hul hus hfd
      obtain rfl : d = t := hd
      refine go_iload e16_10 rfl ?_
      refine go_iloadN e16_12 rfl ?_
      refine go_icgeY e16_13 (tg := 27) (by decide) (by rw [hgi, hy]; exact Int.le_refl _) ?_
      refine go_return e16_27 rfl (by decide) (by decide) ?_
      exact ⟨rfl, us, hul, hus, rfl⟩
    | succ r ih =>
      intro d gi us hd hgi hul hus hfd
      refine go_iload e16_10 rfl ?_
      refine go_iloadN e16_12 rfl ?_
      refine go_icgeN e16_13 (tg := 27) (by decide) (by rw [hgi, hy]; omega) ?_
      refine go_aloadN e16_16 rfl rfl ?_
      refine go_iload e16_17 rfl ?_
      refine go_iloadN e16_19 rfl ?_
      refine go_iastore e16_20 (get_eq hq) (k := d) hgi (by omega) ?_
      rw [List.set_set]
      refine go_iinc_4 e16_21 (z := 1) rfl ?_
      refine go_goto e16_24 (tg := 10) (by decide) ?_
      exact ih (d + 1) (gi + 1) _ (by omega) (own_inc1 hgi (by omega)) (by rw [List.length_set]; exact hul) (own_fstep hul (by omega) hfd hus) (by omega)
  refine go_aloadN e16_0 rfl rfl ?_
  refine go_len e16_1 hq (n := (Int32.ofNat vs.length)) rfl ?_
  refine go_iloadN e16_2 rfl ?_
  refine go_iloadN e16_3 rfl ?_
  refine go_staticV_3 e16_4 (wd 125 rfl) (wd 126 rfl) (wd 127 rfl) (wd 73 rfl) hy_8 pd_9 rfl (c_rng hw (by rw [hx, hy]; omega) (by rw [hx]; omega) (by rw [own_ti (by omega), hy]; omega)) rfl 0 rfl (by decide) (by decide) (by decide) (by decide) ?_
  rintro _ rfl
  refine go_iloadN e16_7 rfl ?_
  refine go_istore_4 e16_8 rfl ?_
  have h0 := loop (t - f) f x vs (by omega) hx rfl (fun i => by rw [if_neg (by omega)]) (Nat.le_refl _)
  rw [set_same hq] at h0
  exact h0
set_option maxRecDepth 65536 in
set_option maxHeartbeats 4000000 in
theorem c_copy {l : Launch} {Z : State} {a0 : Array Value} {b : Nat} (hw : ∀ d ∈ tables_1, d.before a0 Z = true) {H : List GCell} {q n : Nat} {vs : List Value} (hq : H[q]? = some (ar .int vs)) (hi : ∀ (i : Nat) (u : Value), vs[i]? = some u → ∃ x : Int32, u = .int x) (hl : vs.length ≤ 100000) (hn : n ≤ 100000) (hne : n ≠ vs.length) :
    Met l Z a0 b (⟨"java/util/Arrays", "copyOf", "([II)[I"⟩ : MethodName) jdk_65_method_123_code 3 (some (.array .int)) ({ frames := 1, cells := 1, slots := n, locals := 18 } : Room) [.ref q, .int (Int32.ofNat n)] H (fun r H' => ∃ u, r = some u ∧ (∃ ws : List Value, u = .ref H.length ∧ ws.length = n ∧ (∀ i, ws[i]? = if i < n ∧ i < vs.length then vs[i]? else if i < n then some (.int 0) else none) ∧ H' = H ++ [ar .int ws])) := by
  refine Met.of_go hw (plainFor_of_name pn_5) (L0 := [.val (.ref q), .val (.int (Int32.ofNat n)), .unset]) rfl ?_
  intro p e s m args below meth c C
  refine go_iloadN e11_0 rfl ?_
  refine go_aloadN e11_1 rfl rfl ?_
  refine go_len e11_2 hq (n := (Int32.ofNat vs.length)) rfl ?_
  refine go_icneY e11_3 (tg := 14) (by first | decide | exact Nat.le_of_ble_eq_true rfl | (show 0 + n + 0 ≤ n; omega)) (fun z => hne (by have e := congrArg Int32.toInt z; rw [own_ti (by omega), own_ti (by omega)] at e; omega)) ?_
  refine go_iloadN e11_14 rfl ?_
  obtain ⟨zs, hzs⟩ : ∃ zs, List.replicate n (Value.int 0) = zs := ⟨_, rfl⟩
  have hzl : zs.length = n := by rw [← hzs, List.length_replicate]
  refine go_newarray e11_15 (wd 15 rfl) (k := n) (own_ti (by omega)) (vs := zs) hzs (cap := n) (Nat.le_refl _) (by omega) (by first | decide | exact Nat.le_of_ble_eq_true rfl | (show 0 + n + 0 ≤ n; omega)) (Nat.le_of_eq (Nat.zero_add _)) ?_
  refine go_astore_2 e11_17 rfl rfl ?_
  refine go_aloadN e11_18 rfl rfl ?_
  refine go_iconst e11_19 (x := 0) rfl ?_
  refine go_aloadN e11_20 rfl rfl ?_
  refine go_iconst e11_21 (x := 0) rfl ?_
  refine go_aloadN e11_22 rfl rfl ?_
  refine go_len e11_23 (get_app hq) (n := (Int32.ofNat vs.length)) rfl ?_
  refine go_iloadN e11_24 rfl ?_
  refine go_static_2 e11_25 (wd 75 rfl) (wd 76 rfl) (wd 78 rfl) (wd 77 rfl) hy_10 pd_11 rfl (c_min hw) rfl 4 rfl (by first | decide | exact Nat.le_of_ble_eq_true rfl | (show 0 + n + 0 ≤ n; omega)) (by first | decide | exact Nat.le_of_ble_eq_true rfl | (show 0 + n + 0 ≤ n; omega)) (by first | decide | exact Nat.le_of_ble_eq_true rfl | (show 0 + n + 0 ≤ n; omega)) (by first | decide | exact Nat.le_of_ble_eq_true rfl | (show 0 + n + 0 ≤ n; omega)) ?_
  rintro _ _ ⟨mz, rfl, hmz, rfl⟩
  rw [own_ti (by omega), own_ti (by omega)] at hmz
  refine go_arraycopy e11_28 (wd 79 rfl) (wd 82 rfl) (wd 80 rfl) (wd 81 rfl) (get_app hq) get_last rfl (sp := 0) (dp := 0) (n := (min vs.length n)) rfl rfl (by omega) (by omega) (by omega) (vs' := (vs.take (min vs.length n) ++ zs.drop (min vs.length n))) (own_cp hi) (own_cpv hzl) rfl (by first | decide | exact Nat.le_of_ble_eq_true rfl | (show 0 + n + 0 ≤ n; omega)) 0 (Nat.le_of_eq rfl) (by first | decide | exact Nat.le_of_ble_eq_true rfl | (show 0 + n + 0 ≤ n; omega)) ?_
  refine go_aloadN e11_31 rfl rfl ?_
  refine go_areturn e11_32 rfl rfl rfl (by first | decide | exact Nat.le_of_ble_eq_true rfl | (show 0 + n + 0 ≤ n; omega)) (Nat.le_of_eq (Nat.zero_add _)) ?_
  exact ⟨_, rfl, _, rfl, own_cpl hzl, own_cpw hzl hzs, by rw [own_setlast]⟩
set_option maxRecDepth 65536 in
set_option maxHeartbeats 4000000 in
theorem c_app {l : Launch} {Z : State} {a0 : Array Value} {b : Nat} (hw : ∀ d ∈ tables_1, d.before a0 Z = true) {H : List GCell} {q ip j N k pb : Nat} {bb : Int64} {lim sc en bn bcr bl po br cr lb eb rp z : Int32} (hq : H[q]? = some (Bz (.ref pb) ip j N k bb (Tl lim sc en bn bcr bl po br cr lb eb rp))) (hp : H[pb]? = some (ar .int [])) (hlim : 100000 ≤ lim.toInt) :
    Met l Z a0 b (⟨"com/example/deltaweave/deltaweave/format/Bzip2InputStream", "append", "(III)I"⟩ : MethodName) prog_14_method_9_code 6 (some .int) ({ frames := 2, cells := 1, slots := 65536, locals := 33 } : Room) [.ref q, .int z, .int 1, .int 0] H (fun r H' => ∃ u, r = some u ∧ (∃ us : List Value, u = .int 1 ∧ us.length = 65536 ∧ us[0]? = some (.int z) ∧ H' = H.set q (Bz (.ref H.length) ip j N k bb (Tl lim sc en bn bcr bl po br cr lb eb rp)) ++ [ar .int us])) := by
  refine Met.of_go hw (plainFor_of_name pn_2) (L0 := [.val (.ref q), .val (.int z), .val (.int 1), .val (.int 0), .unset, .unset]) rfl ?_
  intro p e s m args below meth c C
  refine go_iloadN e19_0 rfl ?_
  refine go_aloadN e19_1 rfl rfl ?_
  refine go_getfield e19_2 (wd 41 rfl) hq (j := 6) rfl ?_
  refine go_iloadN e19_5 rfl ?_
  refine go_isub e19_6 ?_
  refine go_icleY e19_7 (tg := 31) (by decide) (own_lim hlim) ?_
  refine go_iloadN e19_31 rfl ?_
  refine go_iloadN e19_32 rfl ?_
  refine go_iadd e19_33 ?_
  refine go_istore_4 e19_34 rfl ?_
  refine go_iload e19_36 rfl ?_
  refine go_aloadN e19_38 rfl rfl ?_
  refine go_getfield e19_39 (wd 16 rfl) hq (j := 0) rfl ?_
  refine go_len e19_42 hp (n := 0) rfl ?_
  refine go_icleN e19_43 (tg := 85) (by decide) (by decide) ?_
  refine go_aloadN e19_46 rfl rfl ?_
  refine go_getfield e19_47 (wd 16 rfl) hq (j := 0) rfl ?_
  refine go_len e19_50 hp (n := 0) rfl ?_
  refine go_iconst e19_51 (x := 2) rfl ?_
  refine go_imul e19_52 ?_
  refine go_iload e19_53 rfl ?_
  refine go_ldc e19_55 (wd 143 rfl) ?_
  refine go_static_2 e19_57 (wd 144 rfl) (wd 145 rfl) (wd 146 rfl) (wd 77 rfl) hy_10 pd_11 rfl (c_max hw) rfl 1 rfl (by decide) (by decide) (by decide) (by decide) ?_
  rintro _ _ ⟨z1, rfl, hz1, hH1⟩
  obtain rfl := hH1.symm
  refine go_static_2 e19_60 (wd 144 rfl) (wd 145 rfl) (wd 146 rfl) (wd 77 rfl) hy_10 pd_11 rfl (c_max hw) rfl 0 rfl (by decide) (by decide) (by decide) (by decide) ?_
  rintro _ _ ⟨z2, rfl, hz2, hH1⟩
  obtain rfl := hH1.symm
  refine go_istore_5 e19_63 rfl ?_
  refine go_aloadN e19_65 rfl rfl ?_
  refine go_aloadN e19_66 rfl rfl ?_
  refine go_getfield e19_67 (wd 16 rfl) hq (j := 0) rfl ?_
  refine go_iload e19_70 rfl ?_
  refine go_aloadN e19_72 rfl rfl ?_
  refine go_getfield e19_73 (wd 41 rfl) hq (j := 6) rfl ?_
  refine go_static_2 e19_76 (wd 147 rfl) (wd 76 rfl) (wd 78 rfl) (wd 77 rfl) hy_10 pd_11 rfl (c_min hw) rfl 2 rfl (by decide) (by decide) (by decide) (by decide) ?_
  rintro _ _ ⟨z3, rfl, hz3, hH1⟩
  obtain rfl := hH1.symm
  obtain rfl := own_app hlim hz1 hz2 hz3
  refine go_static_2 e19_79 (wd 71 rfl) (wd 72 rfl) (wd 74 rfl) (wd 73 rfl) hy_8 pd_12 rfl (c_copy hw hp (fun i u h => by simp at h) (by decide) (by decide) (by decide)) rfl 1 rfl (by decide) (by decide) (by decide) (by decide) ?_
  rintro _ _ ⟨ws, rfl, hwl, hws, rfl⟩
  refine go_putfield e19_82 (wd 16 rfl) (Or.inl (wd 17 rfl)) (wd 2 rfl) pf_13 (get_app hq) (j := 0) rfl rfl rfl ?_
  rw [List.set_append_left _ _ (List.getElem?_eq_some_iff.mp hq).1]
  refine go_aloadN e19_85 rfl rfl ?_
  refine go_getfield e19_86 (wd 16 rfl) (get_app (get_eq hq)) (j := 0) rfl ?_
  refine go_iloadN e19_89 rfl ?_
  refine go_iload e19_90 rfl ?_
  refine go_iloadN e19_92 rfl ?_
  refine go_staticV_4 e19_93 (wd 148 rfl) (wd 123 rfl) (wd 124 rfl) (wd 73 rfl) hy_8 pd_14 rfl (c_afill hw (q := H.length) own_gl (f := 0) (t := 1) rfl (by decide) (by decide) (by omega) (by omega)) rfl 0 rfl (by decide) (by decide) (by decide) (by decide) ?_
  rintro _ ⟨us, hul, hus, rfl⟩
  rw [own_setlast2]
  refine go_iload e19_96 rfl ?_
  refine go_ireturn e19_98 rfl (by decide) (by decide) ?_
  exact ⟨_, rfl, us, rfl, by omega, by rw [hus, if_pos (by decide)], rfl⟩
set_option maxRecDepth 65536 in
set_option maxHeartbeats 4000000 in
theorem c_link {l : Launch} {Z : State} {a0 : Array Value} {b : Nat} (hw : ∀ d ∈ tables_1, d.before a0 Z = true) {H : List GCell} {q ip j N k pb : Nat} {bb : Int64} {lim sc en bn bcr po br cr lb eb rp : Int32} {blk : List Value} (hq : H[q]? = some (Bz (.ref pb) ip j N k bb (Tl lim sc en bn bcr 1 po br cr lb eb rp))) (hp : H[pb]? = some (ar .int blk)) (hbl : blk.length = 65536) (hb0 : blk[0]? = some (.int 0)) :
    Met l Z a0 b (⟨"com/example/deltaweave/deltaweave/format/Bzip2InputStream", "linkBlock", "()V"⟩ : MethodName) prog_14_method_13_code 5 none ({ frames := 0, cells := 1, slots := 256, locals := 0 } : Room) [.ref q] H (fun r H' => r = none ∧ ∃ (us cs : List Value) (x : Int32), us.length = 65536 ∧ us[0]? = some (.int x) ∧ H' = H.set pb (ar .int us) ++ [ar .int cs]) := by
  refine Met.of_go hw (plainFor_of_name pn_2) (L0 := [.val (.ref q), .unset, .unset, .unset, .unset]) rfl ?_
  intro p e s m args below meth c C
  have loop : ∀ (r i : Nat) (ii sm : Int32) (cs : List Value) (o4 : Slot), i + r = 256 → ii.toInt = (i : Int) → cs.length = 256 → (∀ k, k < 256 → ∃ x : Int32, cs[k]? = some (.int x)) → (0 < i → cs[0]? = some (.int 0)) → (i = 0 → sm = 0) → oneS o4 = true → Go C 42 [.val (.ref q), .val (.ref H.length), .val (.int sm), .val (.int ii), o4] [] (H ++ [ar .int cs]) 1 256 := by
    intro r
    induction r with
    | zero =>
      intro i ii sm cs o4 hir hii hcl hci hc0 hs0 ho4
      obtain rfl : i = 256 := hir
      refine go_iloadN e21_42 rfl ?_
      refine go_aloadN e21_43 rfl rfl ?_
      refine go_len e21_44 get_last (n := 256) (by rw [hcl]; rfl) ?_
      refine go_icgeY e21_45 (tg := 68) (by decide) (by rw [hii]; decide) ?_
      refine go_iconst e21_68 (x := 0) rfl ?_
      refine go_istore_3 e21_69 rfl ?_
      refine go_iloadN e21_70 rfl ?_
      refine go_aloadN e21_71 rfl rfl ?_
      refine go_getfield e21_72 (wd 149 rfl) (get_app hq) (j := 11) rfl ?_
      refine go_icgeN e21_75 (tg := 113) (by decide) (by decide) ?_
      refine go_aloadN e21_78 rfl rfl ?_
      refine go_getfield e21_79 (wd 16 rfl) (get_app hq) (j := 0) rfl ?_
      refine go_aloadN e21_82 rfl rfl ?_
      refine go_aloadN e21_83 rfl rfl ?_
      refine go_getfield e21_84 (wd 16 rfl) (get_app hq) (j := 0) rfl ?_
      refine go_iloadN e21_87 rfl ?_
      refine go_iaload e21_88 (get_app hp) (k := 0) (by decide) hb0 ?_
      refine go_sipush e21_89 (x := 255) rfl ?_
      refine go_iand e21_92 ?_
      refine go_dup2 e21_93 rfl rfl ?_
      refine go_iaload e21_94 get_last (k := 0) (by decide) (hc0 (by decide)) ?_
      refine go_dupX2 e21_95 rfl rfl rfl ?_
      refine go_iconst e21_96 (x := 1) rfl ?_
      refine go_iadd e21_97 ?_
      refine go_iastore e21_98 get_last (k := 0) (by decide) (by omega) ?_
      rw [own_setlast]
      refine go_dup2 e21_99 rfl rfl ?_
      refine go_iaload e21_100 (get_app hp) (k := 0) (by decide) hb0 ?_
      refine go_iloadN e21_101 rfl ?_
      refine go_bipush e21_102 (x := 8) rfl ?_
      refine go_ishl e21_104 ?_
      refine go_ior e21_105 ?_
      refine go_iastore e21_106 (get_app hp) (k := 0) (by decide) (by omega) ?_
      rw [List.set_append_left _ _ (List.getElem?_eq_some_iff.mp hp).1]
      refine go_iinc_3 e21_107 (z := 1) rfl ?_
      refine go_goto e21_110 (tg := 70) (by decide) ?_
      refine go_iloadN e21_70 rfl ?_
      refine go_aloadN e21_71 rfl rfl ?_
      refine go_getfield e21_72 (wd 149 rfl) (get_app (get_ne hq (ne_oa hq hp).symm)) (j := 11) rfl ?_
      refine go_icgeY e21_75 (tg := 113) (by decide) (by decide) ?_
      refine go_return e21_113 rfl (by decide) (by decide) ?_
      exact ⟨rfl, _, _, _, by rw [List.length_set]; exact hbl, by rw [List.getElem?_set, if_pos rfl, if_pos (by omega)], rfl⟩
    | succ r ih =>
      intro i ii sm cs o4 hir hii hcl hci hc0 hs0 ho4
      obtain ⟨cx, hcx⟩ := hci i (by omega)
      refine go_iloadN e21_42 rfl ?_
      refine go_aloadN e21_43 rfl rfl ?_
      refine go_len e21_44 get_last (n := 256) (by rw [hcl]; rfl) ?_
      refine go_icgeN e21_45 (tg := 68) (by decide) (by rw [hii]; have k2 : (256 : Int32).toInt = 256 := rfl; omega) ?_
      refine go_aloadN e21_48 rfl rfl ?_
      refine go_iloadN e21_49 rfl ?_
      refine go_iaload e21_50 get_last (k := i) hii hcx ?_
      refine go_istore_4 e21_51 ho4 ?_
      refine go_aloadN e21_53 rfl rfl ?_
      refine go_iloadN e21_54 rfl ?_
      refine go_iloadN e21_55 rfl ?_
      refine go_iastore e21_56 get_last (k := i) hii (by omega) ?_
      rw [own_setlast]
      refine go_iloadN e21_57 rfl ?_
      refine go_iload e21_58 rfl ?_
      refine go_iadd e21_60 ?_
      refine go_istore_2 e21_61 rfl ?_
      refine go_iinc_3 e21_62 (z := 1) rfl ?_
      refine go_goto e21_65 (tg := 42) (by decide) ?_
      exact ih (i + 1) _ _ _ _ (by omega) (own_inc1 hii (by omega)) (by rw [List.length_set]; exact hcl) (own_ints hci) (fun _ => own_zero hcl (by omega) hc0 hs0) (fun h => absurd h (by omega)) rfl
  refine go_sipush e21_0 (x := 256) rfl ?_
  obtain ⟨zs, hzs⟩ : ∃ zs, List.replicate 256 (Value.int 0) = zs := ⟨_, rfl⟩
  have hzl : zs.length = 256 := by rw [← hzs, List.length_replicate]
  have hz : ∀ k, k < 256 → zs[k]? = some (Value.int 0) := fun k hk => by rw [← hzs, List.getElem?_replicate, if_pos hk]
  refine go_newarray e21_3 (wd 15 rfl) (k := 256) rfl (vs := zs) hzs (cap := 256) (by decide) (by decide) (by decide) (by decide) ?_
  refine go_astore_1 e21_5 rfl rfl ?_
  refine go_iconst e21_6 (x := 0) rfl ?_
  refine go_istore_2 e21_7 rfl ?_
  refine go_iloadN e21_8 rfl ?_
  refine go_aloadN e21_9 rfl rfl ?_
  refine go_getfield e21_10 (wd 149 rfl) (get_app hq) (j := 11) rfl ?_
  refine go_icgeN e21_13 (tg := 38) (by decide) (by decide) ?_
  refine go_aloadN e21_16 rfl rfl ?_
  refine go_aloadN e21_17 rfl rfl ?_
  refine go_getfield e21_18 (wd 16 rfl) (get_app hq) (j := 0) rfl ?_
  refine go_iloadN e21_21 rfl ?_
  refine go_iaload e21_22 (get_app hp) (k := 0) (by decide) hb0 ?_
  refine go_sipush e21_23 (x := 255) rfl ?_
  refine go_iand e21_26 ?_
  refine go_dup2 e21_27 rfl rfl ?_
  refine go_iaload e21_28 get_last (k := 0) (by decide) (hz 0 (by decide)) ?_
  refine go_iconst e21_29 (x := 1) rfl ?_
  refine go_iadd e21_30 ?_
  refine go_iastore e21_31 get_last (k := 0) (by decide) (by omega) ?_
  rw [own_setlast]
  refine go_iinc_2 e21_32 (z := 1) rfl ?_
  refine go_goto e21_35 (tg := 8) (by decide) ?_
  refine go_iloadN e21_8 rfl ?_
  refine go_aloadN e21_9 rfl rfl ?_
  refine go_getfield e21_10 (wd 149 rfl) (get_app hq) (j := 11) rfl ?_
  refine go_icgeY e21_13 (tg := 38) (by decide) (by decide) ?_
  refine go_iconst e21_38 (x := 0) rfl ?_
  refine go_istore_2 e21_39 rfl ?_
  refine go_iconst e21_40 (x := 0) rfl ?_
  refine go_istore_3 e21_41 rfl ?_
  exact loop 256 0 0 0 _ _ rfl rfl (by rw [List.length_set]; exact hzl) (own_ints (fun k hk => ⟨0, hz k hk⟩)) (fun h => absurd h (by decide)) (fun _ => rfl) rfl
set_option maxRecDepth 65536 in
set_option maxHeartbeats 4000000 in
theorem c_dec {l : Launch} {Z : State} {a0 : Array Value} {b : Nat} (hw : ∀ d ∈ tables_1, d.before a0 Z = true) {H : List GCell} {q ip j N k v : Nat} {bb : Int64} {blk : Value} {tl : List (String × String × Value)} (hq : H[q]? = some (Bz blk ip j N k bb tl)) {t lk K p : Nat} {w1 w2 w3 w4 : Value} {vs lv : List Value} {xs : List Int32} {E : Int32} (hT : H[t]? = some (HT q (.ref lk) w1 w2 w3 w4)) (hqt : q ≠ t) (hl : H[lk]? = some (ar .int lv)) (hi : H[ip]? = some (ar .byte vs)) (hx : Nx vs j xs) (hv : bb.toBitVec.toNat % 2 ^ k = v) (h1 : ∀ i, i < xs.length → k + 8 * i < 20) (h2 : j + xs.length ≤ N) (h3 : 20 ≤ k + 8 * xs.length ∨ j + xs.length = N) (hc : k ≤ 40) (hN : N ≤ 1000) (hK : k + 8 * xs.length = K) (hK2 : 2 ≤ K) (hK3 : K ≤ 27) (hp : accL v xs / 2 ^ (K - 2) = p) (hlk : ∀ i, 256 * p ≤ i → i < 256 * p + 256 → lv[i]? = some (.int E)) (hE0 : ¬ E = 0) (hE : E &&& 31 = Int32.ofNat 2) {V2 j2 k2 : Nat} (hV2 : accL v xs % 2 ^ (K - 2) = V2) (hj2 : j + xs.length = j2) (hk2 : K - 2 = k2) :
    Met l Z a0 b (⟨"com/example/deltaweave/deltaweave/format/Bzip2InputStream$HuffmanTable", "decode", "()I"⟩ : MethodName) prog_15_method_2_code 7 (some .int) ({ frames := 1, cells := 0, slots := 0, locals := 13 } : Room) [.ref t] H (fun r H' => ∃ u, r = some u ∧ (∃ bb' : Int64, u = .int (XT.ushr E 5) ∧ bb'.toBitVec.toNat % 2 ^ k2 = V2 ∧ H' = H.set q (Bz blk ip j2 N k2 bb' tl))) := by
  subst hV2 hj2 hk2
  refine Met.of_go hw (plainFor_of_name pn_15) (L0 := [.val (.ref t), .unset, .unset, .unset, .unset, .unset, .unset]) rfl ?_
  intro p e s m args below meth c C
  refine go_aloadN e18_0 rfl rfl ?_
  refine go_getfield e18_1 (wd 99 rfl) hT (j := 0) rfl ?_
  refine go_bipush e18_4 (x := 20) rfl ?_
  refine go_privateV_1 e18_6 (Or.inr ⟨_, wd 134 rfl⟩) (wd 30 rfl) (wd 2 rfl) (wd 29 rfl) (wd 31 rfl) (wd 3 rfl) hy_3 pd_4 rfl (c_fill hw hq hi hx hv h1 h2 h3 hc hN (by decide)) hq rfl 0 rfl (by decide) (by decide) (by decide) (by decide) ?_
  rintro _ ⟨b1, hb1, rfl⟩
  rw [hK]
  rw [hK] at hb1
  refine go_aloadN e18_9 rfl rfl ?_
  refine go_getfield e18_10 (wd 99 rfl) (get_ne hT hqt) (j := 0) rfl ?_
  refine go_getfieldN e18_13 (wd 135 rfl) (get_eq hq) (j := 4) rfl ?_
  refine go_bipush e18_16 (x := 20) rfl ?_
  refine go_iclt e18_18 (tg := 42) (by decide) ?_ ?_
  · intro c18
    refine go_aloadN e18_42 rfl rfl ?_
    refine go_getfield e18_43 (wd 99 rfl) (get_ne hT hqt) (j := 0) rfl ?_
    refine go_getfieldN e18_46 (wd 136 rfl) (get_eq hq) (j := 5) rfl ?_
    refine go_bipush e18_49 (x := 20) rfl ?_
    refine go_aloadN e18_51 rfl rfl ?_
    refine go_getfield e18_52 (wd 99 rfl) (get_ne hT hqt) (j := 0) rfl ?_
    refine go_getfieldN e18_55 (wd 135 rfl) (get_eq hq) (j := 4) rfl ?_
    refine go_isub e18_58 ?_
    refine go_lshl e18_59 ?_
    refine go_lstore_1 e18_60 (Or.inl rfl) rfl ?_
    refine go_lloadN e18_61 rfl ?_
    refine go_ldc2 e18_62 (wd 137 rfl) ?_
    refine go_land e18_65 ?_
    refine go_l2i e18_66 ?_
    obtain ⟨W, hW1, hW2, hW3⟩ := own_winB hb1 hK2 (by rw [own_ti (by omega)] at c18; have k2 : (20 : Int32).toInt = 20 := rfl; omega) hp
    rw [hW3]
    refine go_istore_3 e18_67 rfl ?_
    refine go_aloadN e18_68 rfl rfl ?_
    refine go_getfield e18_69 (wd 102 rfl) (get_ne hT hqt) (j := 1) rfl ?_
    refine go_iloadN e18_72 rfl ?_
    refine go_bipush e18_73 (x := 10) rfl ?_
    refine go_iushr e18_75 ?_
    refine go_iaload e18_76 (get_ne hl (ne_oa hq hl)) (k := (W / 1024)) (own_idx hW1) (hlk _ (by omega) (by omega)) ?_
    refine go_istore_4 e18_77 rfl ?_
    refine go_iload e18_79 rfl ?_
    refine go_ifeqN e18_81 (tg := 100) (by decide) hE0 ?_
    refine go_iload e18_84 rfl ?_
    refine go_bipush e18_86 (x := 31) rfl ?_
    refine go_iand e18_88 ?_
    refine go_istore_5 e18_89 rfl ?_
    rw [hE]
    refine go_iload e18_91 rfl ?_
    refine go_iconst e18_93 (x := 5) rfl ?_
    refine go_iushr e18_94 ?_
    refine go_istore_6 e18_95 rfl ?_
    refine go_goto e18_97 (tg := 199) (by decide) ?_
    refine go_aloadN e18_199 rfl rfl ?_
    refine go_getfield e18_200 (wd 99 rfl) (get_ne hT hqt) (j := 0) rfl ?_
    refine go_iload e18_203 rfl ?_
    refine go_privateV_1 e18_205 (Or.inr ⟨_, wd 138 rfl⟩) (wd 38 rfl) (wd 2 rfl) (wd 37 rfl) (wd 39 rfl) (wd 3 rfl) hy_3 pd_4 rfl (c_cons hw (n := 2) (get_eq hq) hK2 (by omega)) (get_eq hq) rfl 0 rfl (by decide) (by decide) (by decide) (by decide) ?_
    rintro _ rfl
    rw [List.set_set]
    refine go_iload e18_208 rfl ?_
    refine go_ireturn e18_210 rfl (by decide) (by decide) ?_
    exact ⟨_, rfl, b1, rfl, own_low (n := 2) (by rw [Nat.sub_add_cancel hK2]; exact hb1), rfl⟩
  · intro c18
    refine go_aloadN e18_21 rfl rfl ?_
    refine go_getfield e18_22 (wd 99 rfl) (get_ne hT hqt) (j := 0) rfl ?_
    refine go_getfieldN e18_25 (wd 136 rfl) (get_eq hq) (j := 5) rfl ?_
    refine go_aloadN e18_28 rfl rfl ?_
    refine go_getfield e18_29 (wd 99 rfl) (get_ne hT hqt) (j := 0) rfl ?_
    refine go_getfieldN e18_32 (wd 135 rfl) (get_eq hq) (j := 4) rfl ?_
    refine go_bipush e18_35 (x := 20) rfl ?_
    refine go_isub e18_37 ?_
    refine go_lushr e18_38 ?_
    refine go_goto e18_39 (tg := 60) (by decide) ?_
    refine go_lstore_1 e18_60 (Or.inl rfl) rfl ?_
    refine go_lloadN e18_61 rfl ?_
    refine go_ldc2 e18_62 (wd 137 rfl) ?_
    refine go_land e18_65 ?_
    refine go_l2i e18_66 ?_
    obtain ⟨W, hW1, hW2, hW3⟩ := own_winA hb1 (by rw [own_ti (by omega)] at c18; have k2 : (20 : Int32).toInt = 20 := rfl; omega) hK3 hp
    rw [hW3]
    refine go_istore_3 e18_67 rfl ?_
    refine go_aloadN e18_68 rfl rfl ?_
    refine go_getfield e18_69 (wd 102 rfl) (get_ne hT hqt) (j := 1) rfl ?_
    refine go_iloadN e18_72 rfl ?_
    refine go_bipush e18_73 (x := 10) rfl ?_
    refine go_iushr e18_75 ?_
    refine go_iaload e18_76 (get_ne hl (ne_oa hq hl)) (k := (W / 1024)) (own_idx hW1) (hlk _ (by omega) (by omega)) ?_
    refine go_istore_4 e18_77 rfl ?_
    refine go_iload e18_79 rfl ?_
    refine go_ifeqN e18_81 (tg := 100) (by decide) hE0 ?_
    refine go_iload e18_84 rfl ?_
    refine go_bipush e18_86 (x := 31) rfl ?_
    refine go_iand e18_88 ?_
    refine go_istore_5 e18_89 rfl ?_
    rw [hE]
    refine go_iload e18_91 rfl ?_
    refine go_iconst e18_93 (x := 5) rfl ?_
    refine go_iushr e18_94 ?_
    refine go_istore_6 e18_95 rfl ?_
    refine go_goto e18_97 (tg := 199) (by decide) ?_
    refine go_aloadN e18_199 rfl rfl ?_
    refine go_getfield e18_200 (wd 99 rfl) (get_ne hT hqt) (j := 0) rfl ?_
    refine go_iload e18_203 rfl ?_
    refine go_privateV_1 e18_205 (Or.inr ⟨_, wd 138 rfl⟩) (wd 38 rfl) (wd 2 rfl) (wd 37 rfl) (wd 39 rfl) (wd 3 rfl) hy_3 pd_4 rfl (c_cons hw (n := 2) (get_eq hq) hK2 (by omega)) (get_eq hq) rfl 0 rfl (by decide) (by decide) (by decide) (by decide) ?_
    rintro _ rfl
    rw [List.set_set]
    refine go_iload e18_208 rfl ?_
    refine go_ireturn e18_210 rfl (by decide) (by decide) ?_
    exact ⟨_, rfl, b1, rfl, own_low (n := 2) (by rw [Nat.sub_add_cancel hK2]; exact hb1), rfl⟩
set_option maxRecDepth 65536 in
set_option maxHeartbeats 4000000 in
theorem c_bv {l : Launch} {Z : State} {a0 : Array Value} {b : Nat} (hw : ∀ d ∈ tables_1, d.before a0 Z = true) {o N : Nat} {bb : Int64} {tl : List (String × String × Value)} {vs : List Value} (hN : N ≤ 1000) (hx : Nx vs (o + 18) [0, 64, 0, 32]) (hv : bb.toBitVec.toNat % 2 ^ 7 = 64) (hO : o + 22 ≤ N) :
    Met l Z a0 b (⟨"com/example/deltaweave/deltaweave/format/Bzip2InputStream", "readByteValues", "()[I"⟩ : MethodName) prog_14_method_10_code 7 (some (.array .int)) ({ frames := 2, cells := 2, slots := 257, locals := 32 } : Room) [.ref 1] [ar .byte vs, Bz (.ref 2) 0 (o + 18) N 7 bb tl, ar .int []] (fun r H' => ∃ u, r = some u ∧ (∃ (zs : List Value) (b2 : Int64), u = .ref 4 ∧ b2.toBitVec.toNat % 2 ^ 7 = 32 ∧ H' = [ar .byte vs, Bz (.ref 2) 0 (o + 22) N 7 b2 tl, ar .int [], ar .int zs, ar .int [.int 0]])) := by
  refine Met.of_go hw (plainFor_of_name pn_2) (L0 := [.val (.ref 1), .unset, .unset, .unset, .unset, .unset, .unset]) rfl ?_
  intro p e s m args below meth c C
  refine go_aloadN e10_0 rfl rfl ?_
  refine go_bipush e10_1 (x := 16) rfl ?_
  refine go_private_1 e10_3 (Or.inl (wd 24 rfl)) (wd 26 rfl) (wd 2 rfl) (wd 25 rfl) (wd 27 rfl) (wd 3 rfl) hy_3 pd_16 rfl (c_bits hw (j := o + 18) (n := 16) (k := 7) (k2 := 7) (xs := [0, 64]) (R := 32768) (V2 := 64) (j2 := (o + 20)) rfl rfl ⟨hx.1, hx.2.1, trivial⟩ hv (fun i hi => by simp only [List.length_cons, List.length_nil] at hi; omega) (by simp only [List.length_cons, List.length_nil]; omega) rfl (by decide) (by omega) (by decide) (by decide) (by decide) (by decide) (by decide) (by decide) rfl) rfl rfl 0 rfl (by decide) (by decide) (by decide) (by decide) ?_
  rintro _ _ ⟨b1, rfl, hb1, rfl⟩
  try simp only [List.replicate_succ, List.replicate_zero, List.set_cons_zero, List.set_cons_succ, List.length_nil, List.length_cons, Nat.zero_add, Nat.reduceAdd, List.nil_append, List.cons_append]
  refine go_istore_1 e10_6 rfl ?_
  refine go_sipush e10_7 (x := 256) rfl ?_
  obtain ⟨zs, hzs⟩ : ∃ zs, List.replicate 256 (Value.int 0) = zs := ⟨_, rfl⟩
  have hzl : zs.length = 256 := by rw [← hzs, List.length_replicate]
  refine go_newarray e10_10 (wd 15 rfl) (k := 256) rfl (vs := zs) hzs (cap := 256) (by decide) (by decide) (by decide) (by decide) ?_
  simp only [List.replicate_succ, List.replicate_zero, List.set_cons_zero, List.set_cons_succ, List.length_nil, List.length_cons, Nat.zero_add, Nat.reduceAdd, List.nil_append, List.cons_append]
  refine go_astore_2 e10_12 rfl rfl ?_
  refine go_iconst e10_13 (x := 0) rfl ?_
  refine go_istore_3 e10_14 rfl ?_
  refine go_iconst e10_15 (x := 0) rfl ?_
  refine go_istore_4 e10_16 rfl ?_
  refine go_iload e10_18 rfl ?_
  refine go_bipush e10_20 (x := 16) rfl ?_
  refine go_icgeN e10_22 (tg := 90) (by decide) (by decide) ?_
  refine go_iloadN e10_25 rfl ?_
  refine go_ldc e10_26 (wd 70 rfl) ?_
  refine go_iload e10_28 rfl ?_
  refine go_iushr e10_30 ?_
  refine go_iand e10_31 ?_
  refine go_ifeqN e10_32 (tg := 84) (by decide) (by decide) ?_
  refine go_aloadN e10_35 rfl rfl ?_
  refine go_bipush e10_36 (x := 16) rfl ?_
  refine go_private_1 e10_38 (Or.inl (wd 24 rfl)) (wd 26 rfl) (wd 2 rfl) (wd 25 rfl) (wd 27 rfl) (wd 3 rfl) hy_3 pd_16 rfl (c_bits hw (j := o + 20) (n := 16) (k := 7) (k2 := 7) (xs := [0, 32]) (R := 32768) (V2 := 32) (j2 := (o + 22)) rfl rfl hx.2.2 hb1 (fun i hi => by simp only [List.length_cons, List.length_nil] at hi; omega) (by simp only [List.length_cons, List.length_nil]; omega) rfl (by decide) (by omega) (by decide) (by decide) (by decide) (by decide) (by decide) (by decide) rfl) rfl rfl 0 rfl (by decide) (by decide) (by decide) (by decide) ?_
  rintro _ _ ⟨b2, rfl, hb2, rfl⟩
  try simp only [List.replicate_succ, List.replicate_zero, List.set_cons_zero, List.set_cons_succ, List.length_nil, List.length_cons, Nat.zero_add, Nat.reduceAdd, List.nil_append, List.cons_append]
  refine go_istore_5 e10_41 rfl ?_
  refine go_iconst e10_43 (x := 0) rfl ?_
  refine go_istore_6 e10_44 rfl ?_
  refine go_iload e10_46 rfl ?_
  refine go_bipush e10_48 (x := 16) rfl ?_
  refine go_icgeN e10_50 (tg := 84) (by decide) (by decide) ?_
  refine go_iload e10_53 rfl ?_
  refine go_ldc e10_55 (wd 70 rfl) ?_
  refine go_iload e10_57 rfl ?_
  refine go_iushr e10_59 ?_
  refine go_iand e10_60 ?_
  refine go_ifeqN e10_61 (tg := 78) (by decide) (by decide) ?_
  refine go_aloadN e10_64 rfl rfl ?_
  refine go_iloadN e10_65 rfl ?_
  refine go_iinc_3 e10_66 (z := 1) rfl ?_
  refine go_iload e10_69 rfl ?_
  refine go_bipush e10_71 (x := 16) rfl ?_
  refine go_imul e10_73 ?_
  refine go_iload e10_74 rfl ?_
  refine go_iadd e10_76 ?_
  refine go_iastore e10_77 rfl (k := 0) (by decide) (by omega) ?_
  simp only [List.replicate_succ, List.replicate_zero, List.set_cons_zero, List.set_cons_succ, List.length_nil, List.length_cons, Nat.zero_add, Nat.reduceAdd, List.nil_append, List.cons_append]
  refine go_iinc_6 e10_78 (z := 1) rfl ?_
  refine go_goto e10_81 (tg := 46) (by decide) ?_
  refine go_iload e10_46 rfl ?_
  refine go_bipush e10_48 (x := 16) rfl ?_
  refine go_icgeN e10_50 (tg := 84) (by decide) (by decide) ?_
  refine go_iload e10_53 rfl ?_
  refine go_ldc e10_55 (wd 70 rfl) ?_
  refine go_iload e10_57 rfl ?_
  refine go_iushr e10_59 ?_
  refine go_iand e10_60 ?_
  refine go_ifeqY e10_61 (tg := 78) (by decide) (by decide) ?_
  refine go_iinc_6 e10_78 (z := 1) rfl ?_
  refine go_goto e10_81 (tg := 46) (by decide) ?_
  refine go_iload e10_46 rfl ?_
  refine go_bipush e10_48 (x := 16) rfl ?_
  refine go_icgeN e10_50 (tg := 84) (by decide) (by decide) ?_
  refine go_iload e10_53 rfl ?_
  refine go_ldc e10_55 (wd 70 rfl) ?_
  refine go_iload e10_57 rfl ?_
  refine go_iushr e10_59 ?_
  refine go_iand e10_60 ?_
  refine go_ifeqY e10_61 (tg := 78) (by decide) (by decide) ?_
  refine go_iinc_6 e10_78 (z := 1) rfl ?_
  refine go_goto e10_81 (tg := 46) (by decide) ?_
  refine go_iload e10_46 rfl ?_
  refine go_bipush e10_48 (x := 16) rfl ?_
  refine go_icgeN e10_50 (tg := 84) (by decide) (by decide) ?_
  refine go_iload e10_53 rfl ?_
  refine go_ldc e10_55 (wd 70 rfl) ?_
  refine go_iload e10_57 rfl ?_
  refine go_iushr e10_59 ?_
  refine go_iand e10_60 ?_
  refine go_ifeqY e10_61 (tg := 78) (by decide) (by decide) ?_
  refine go_iinc_6 e10_78 (z := 1) rfl ?_
  refine go_goto e10_81 (tg := 46) (by decide) ?_
  refine go_iload e10_46 rfl ?_
  refine go_bipush e10_48 (x := 16) rfl ?_
  refine go_icgeN e10_50 (tg := 84) (by decide) (by decide) ?_
  refine go_iload e10_53 rfl ?_
  refine go_ldc e10_55 (wd 70 rfl) ?_
  refine go_iload e10_57 rfl ?_
  refine go_iushr e10_59 ?_
  refine go_iand e10_60 ?_
  refine go_ifeqY e10_61 (tg := 78) (by decide) (by decide) ?_
  refine go_iinc_6 e10_78 (z := 1) rfl ?_
  refine go_goto e10_81 (tg := 46) (by decide) ?_
  refine go_iload e10_46 rfl ?_
  refine go_bipush e10_48 (x := 16) rfl ?_
  refine go_icgeN e10_50 (tg := 84) (by decide) (by decide) ?_
  refine go_iload e10_53 rfl ?_
  refine go_ldc e10_55 (wd 70 rfl) ?_
  refine go_iload e10_57 rfl ?_
  refine go_iushr e10_59 ?_
  refine go_iand e10_60 ?_
  refine go_ifeqY e10_61 (tg := 78) (by decide) (by decide) ?_
  refine go_iinc_6 e10_78 (z := 1) rfl ?_
  refine go_goto e10_81 (tg := 46) (by decide) ?_
  refine go_iload e10_46 rfl ?_
  refine go_bipush e10_48 (x := 16) rfl ?_
  refine go_icgeN e10_50 (tg := 84) (by decide) (by decide) ?_
  refine go_iload e10_53 rfl ?_
  refine go_ldc e10_55 (wd 70 rfl) ?_
  refine go_iload e10_57 rfl ?_
  refine go_iushr e10_59 ?_
  refine go_iand e10_60 ?_
  refine go_ifeqY e10_61 (tg := 78) (by decide) (by decide) ?_
  refine go_iinc_6 e10_78 (z := 1) rfl ?_
  refine go_goto e10_81 (tg := 46) (by decide) ?_
  refine go_iload e10_46 rfl ?_
  refine go_bipush e10_48 (x := 16) rfl ?_
  refine go_icgeN e10_50 (tg := 84) (by decide) (by decide) ?_
  refine go_iload e10_53 rfl ?_
  refine go_ldc e10_55 (wd 70 rfl) ?_
  refine go_iload e10_57 rfl ?_
  refine go_iushr e10_59 ?_
  refine go_iand e10_60 ?_
  refine go_ifeqY e10_61 (tg := 78) (by decide) (by decide) ?_
  refine go_iinc_6 e10_78 (z := 1) rfl ?_
  refine go_goto e10_81 (tg := 46) (by decide) ?_
  refine go_iload e10_46 rfl ?_
  refine go_bipush e10_48 (x := 16) rfl ?_
  refine go_icgeN e10_50 (tg := 84) (by decide) (by decide) ?_
  refine go_iload e10_53 rfl ?_
  refine go_ldc e10_55 (wd 70 rfl) ?_
  refine go_iload e10_57 rfl ?_
  refine go_iushr e10_59 ?_
  refine go_iand e10_60 ?_
  refine go_ifeqY e10_61 (tg := 78) (by decide) (by decide) ?_
  refine go_iinc_6 e10_78 (z := 1) rfl ?_
  refine go_goto e10_81 (tg := 46) (by decide) ?_
  refine go_iload e10_46 rfl ?_
  refine go_bipush e10_48 (x := 16) rfl ?_
  refine go_icgeN e10_50 (tg := 84) (by decide) (by decide) ?_
  refine go_iload e10_53 rfl ?_
  refine go_ldc e10_55 (wd 70 rfl) ?_
  refine go_iload e10_57 rfl ?_
  refine go_iushr e10_59 ?_
  refine go_iand e10_60 ?_
  refine go_ifeqY e10_61 (tg := 78) (by decide) (by decide) ?_
  refine go_iinc_6 e10_78 (z := 1) rfl ?_
  refine go_goto e10_81 (tg := 46) (by decide) ?_
  refine go_iload e10_46 rfl ?_
  refine go_bipush e10_48 (x := 16) rfl ?_
  refine go_icgeN e10_50 (tg := 84) (by decide) (by decide) ?_
  refine go_iload e10_53 rfl ?_
  refine go_ldc e10_55 (wd 70 rfl) ?_
  refine go_iload e10_57 rfl ?_
  refine go_iushr e10_59 ?_
  refine go_iand e10_60 ?_
  refine go_ifeqY e10_61 (tg := 78) (by decide) (by decide) ?_
  refine go_iinc_6 e10_78 (z := 1) rfl ?_
  refine go_goto e10_81 (tg := 46) (by decide) ?_
  refine go_iload e10_46 rfl ?_
  refine go_bipush e10_48 (x := 16) rfl ?_
  refine go_icgeN e10_50 (tg := 84) (by decide) (by decide) ?_
  refine go_iload e10_53 rfl ?_
  refine go_ldc e10_55 (wd 70 rfl) ?_
  refine go_iload e10_57 rfl ?_
  refine go_iushr e10_59 ?_
  refine go_iand e10_60 ?_
  refine go_ifeqY e10_61 (tg := 78) (by decide) (by decide) ?_
  refine go_iinc_6 e10_78 (z := 1) rfl ?_
  refine go_goto e10_81 (tg := 46) (by decide) ?_
  refine go_iload e10_46 rfl ?_
  refine go_bipush e10_48 (x := 16) rfl ?_
  refine go_icgeN e10_50 (tg := 84) (by decide) (by decide) ?_
  refine go_iload e10_53 rfl ?_
  refine go_ldc e10_55 (wd 70 rfl) ?_
  refine go_iload e10_57 rfl ?_
  refine go_iushr e10_59 ?_
  refine go_iand e10_60 ?_
  refine go_ifeqY e10_61 (tg := 78) (by decide) (by decide) ?_
  refine go_iinc_6 e10_78 (z := 1) rfl ?_
  refine go_goto e10_81 (tg := 46) (by decide) ?_
  refine go_iload e10_46 rfl ?_
  refine go_bipush e10_48 (x := 16) rfl ?_
  refine go_icgeN e10_50 (tg := 84) (by decide) (by decide) ?_
  refine go_iload e10_53 rfl ?_
  refine go_ldc e10_55 (wd 70 rfl) ?_
  refine go_iload e10_57 rfl ?_
  refine go_iushr e10_59 ?_
  refine go_iand e10_60 ?_
  refine go_ifeqY e10_61 (tg := 78) (by decide) (by decide) ?_
  refine go_iinc_6 e10_78 (z := 1) rfl ?_
  refine go_goto e10_81 (tg := 46) (by decide) ?_
  refine go_iload e10_46 rfl ?_
  refine go_bipush e10_48 (x := 16) rfl ?_
  refine go_icgeN e10_50 (tg := 84) (by decide) (by decide) ?_
  refine go_iload e10_53 rfl ?_
  refine go_ldc e10_55 (wd 70 rfl) ?_
  refine go_iload e10_57 rfl ?_
  refine go_iushr e10_59 ?_
  refine go_iand e10_60 ?_
  refine go_ifeqY e10_61 (tg := 78) (by decide) (by decide) ?_
  refine go_iinc_6 e10_78 (z := 1) rfl ?_
  refine go_goto e10_81 (tg := 46) (by decide) ?_
  refine go_iload e10_46 rfl ?_
  refine go_bipush e10_48 (x := 16) rfl ?_
  refine go_icgeN e10_50 (tg := 84) (by decide) (by decide) ?_
  refine go_iload e10_53 rfl ?_
  refine go_ldc e10_55 (wd 70 rfl) ?_
  refine go_iload e10_57 rfl ?_
  refine go_iushr e10_59 ?_
  refine go_iand e10_60 ?_
  refine go_ifeqY e10_61 (tg := 78) (by decide) (by decide) ?_
  refine go_iinc_6 e10_78 (z := 1) rfl ?_
  refine go_goto e10_81 (tg := 46) (by decide) ?_
  refine go_iload e10_46 rfl ?_
  refine go_bipush e10_48 (x := 16) rfl ?_
  refine go_icgeY e10_50 (tg := 84) (by decide) (by decide) ?_
  refine go_iinc_4 e10_84 (z := 1) rfl ?_
  refine go_goto e10_87 (tg := 18) (by decide) ?_
  refine go_iload e10_18 rfl ?_
  refine go_bipush e10_20 (x := 16) rfl ?_
  refine go_icgeN e10_22 (tg := 90) (by decide) (by decide) ?_
  refine go_iloadN e10_25 rfl ?_
  refine go_ldc e10_26 (wd 70 rfl) ?_
  refine go_iload e10_28 rfl ?_
  refine go_iushr e10_30 ?_
  refine go_iand e10_31 ?_
  refine go_ifeqY e10_32 (tg := 84) (by decide) (by decide) ?_
  refine go_iinc_4 e10_84 (z := 1) rfl ?_
  refine go_goto e10_87 (tg := 18) (by decide) ?_
  refine go_iload e10_18 rfl ?_
  refine go_bipush e10_20 (x := 16) rfl ?_
  refine go_icgeN e10_22 (tg := 90) (by decide) (by decide) ?_
  refine go_iloadN e10_25 rfl ?_
  refine go_ldc e10_26 (wd 70 rfl) ?_
  refine go_iload e10_28 rfl ?_
  refine go_iushr e10_30 ?_
  refine go_iand e10_31 ?_
  refine go_ifeqY e10_32 (tg := 84) (by decide) (by decide) ?_
  refine go_iinc_4 e10_84 (z := 1) rfl ?_
  refine go_goto e10_87 (tg := 18) (by decide) ?_
  refine go_iload e10_18 rfl ?_
  refine go_bipush e10_20 (x := 16) rfl ?_
  refine go_icgeN e10_22 (tg := 90) (by decide) (by decide) ?_
  refine go_iloadN e10_25 rfl ?_
  refine go_ldc e10_26 (wd 70 rfl) ?_
  refine go_iload e10_28 rfl ?_
  refine go_iushr e10_30 ?_
  refine go_iand e10_31 ?_
  refine go_ifeqY e10_32 (tg := 84) (by decide) (by decide) ?_
  refine go_iinc_4 e10_84 (z := 1) rfl ?_
  refine go_goto e10_87 (tg := 18) (by decide) ?_
  refine go_iload e10_18 rfl ?_
  refine go_bipush e10_20 (x := 16) rfl ?_
  refine go_icgeN e10_22 (tg := 90) (by decide) (by decide) ?_
  refine go_iloadN e10_25 rfl ?_
  refine go_ldc e10_26 (wd 70 rfl) ?_
  refine go_iload e10_28 rfl ?_
  refine go_iushr e10_30 ?_
  refine go_iand e10_31 ?_
  refine go_ifeqY e10_32 (tg := 84) (by decide) (by decide) ?_
  refine go_iinc_4 e10_84 (z := 1) rfl ?_
  refine go_goto e10_87 (tg := 18) (by decide) ?_
  refine go_iload e10_18 rfl ?_
  refine go_bipush e10_20 (x := 16) rfl ?_
  refine go_icgeN e10_22 (tg := 90) (by decide) (by decide) ?_
  refine go_iloadN e10_25 rfl ?_
  refine go_ldc e10_26 (wd 70 rfl) ?_
  refine go_iload e10_28 rfl ?_
  refine go_iushr e10_30 ?_
  refine go_iand e10_31 ?_
  refine go_ifeqY e10_32 (tg := 84) (by decide) (by decide) ?_
  refine go_iinc_4 e10_84 (z := 1) rfl ?_
  refine go_goto e10_87 (tg := 18) (by decide) ?_
  refine go_iload e10_18 rfl ?_
  refine go_bipush e10_20 (x := 16) rfl ?_
  refine go_icgeN e10_22 (tg := 90) (by decide) (by decide) ?_
  refine go_iloadN e10_25 rfl ?_
  refine go_ldc e10_26 (wd 70 rfl) ?_
  refine go_iload e10_28 rfl ?_
  refine go_iushr e10_30 ?_
  refine go_iand e10_31 ?_
  refine go_ifeqY e10_32 (tg := 84) (by decide) (by decide) ?_
  refine go_iinc_4 e10_84 (z := 1) rfl ?_
  refine go_goto e10_87 (tg := 18) (by decide) ?_
  refine go_iload e10_18 rfl ?_
  refine go_bipush e10_20 (x := 16) rfl ?_
  refine go_icgeN e10_22 (tg := 90) (by decide) (by decide) ?_
  refine go_iloadN e10_25 rfl ?_
  refine go_ldc e10_26 (wd 70 rfl) ?_
  refine go_iload e10_28 rfl ?_
  refine go_iushr e10_30 ?_
  refine go_iand e10_31 ?_
  refine go_ifeqY e10_32 (tg := 84) (by decide) (by decide) ?_
  refine go_iinc_4 e10_84 (z := 1) rfl ?_
  refine go_goto e10_87 (tg := 18) (by decide) ?_
  refine go_iload e10_18 rfl ?_
  refine go_bipush e10_20 (x := 16) rfl ?_
  refine go_icgeN e10_22 (tg := 90) (by decide) (by decide) ?_
  refine go_iloadN e10_25 rfl ?_
  refine go_ldc e10_26 (wd 70 rfl) ?_
  refine go_iload e10_28 rfl ?_
  refine go_iushr e10_30 ?_
  refine go_iand e10_31 ?_
  refine go_ifeqY e10_32 (tg := 84) (by decide) (by decide) ?_
  refine go_iinc_4 e10_84 (z := 1) rfl ?_
  refine go_goto e10_87 (tg := 18) (by decide) ?_
  refine go_iload e10_18 rfl ?_
  refine go_bipush e10_20 (x := 16) rfl ?_
  refine go_icgeN e10_22 (tg := 90) (by decide) (by decide) ?_
  refine go_iloadN e10_25 rfl ?_
  refine go_ldc e10_26 (wd 70 rfl) ?_
  refine go_iload e10_28 rfl ?_
  refine go_iushr e10_30 ?_
  refine go_iand e10_31 ?_
  refine go_ifeqY e10_32 (tg := 84) (by decide) (by decide) ?_
  refine go_iinc_4 e10_84 (z := 1) rfl ?_
  refine go_goto e10_87 (tg := 18) (by decide) ?_
  refine go_iload e10_18 rfl ?_
  refine go_bipush e10_20 (x := 16) rfl ?_
  refine go_icgeN e10_22 (tg := 90) (by decide) (by decide) ?_
  refine go_iloadN e10_25 rfl ?_
  refine go_ldc e10_26 (wd 70 rfl) ?_
  refine go_iload e10_28 rfl ?_
  refine go_iushr e10_30 ?_
  refine go_iand e10_31 ?_
  refine go_ifeqY e10_32 (tg := 84) (by decide) (by decide) ?_
  refine go_iinc_4 e10_84 (z := 1) rfl ?_
  refine go_goto e10_87 (tg := 18) (by decide) ?_
  refine go_iload e10_18 rfl ?_
  refine go_bipush e10_20 (x := 16) rfl ?_
  refine go_icgeN e10_22 (tg := 90) (by decide) (by decide) ?_
  refine go_iloadN e10_25 rfl ?_
  refine go_ldc e10_26 (wd 70 rfl) ?_
  refine go_iload e10_28 rfl ?_
  refine go_iushr e10_30 ?_
  refine go_iand e10_31 ?_
  refine go_ifeqY e10_32 (tg := 84) (by decide) (by decide) ?_
  refine go_iinc_4 e10_84 (z := 1) rfl ?_
  refine go_goto e10_87 (tg := 18) (by decide) ?_
  refine go_iload e10_18 rfl ?_
  refine go_bipush e10_20 (x := 16) rfl ?_
  refine go_icgeN e10_22 (tg := 90) (by decide) (by decide) ?_
  refine go_iloadN e10_25 rfl ?_
  refine go_ldc e10_26 (wd 70 rfl) ?_
  refine go_iload e10_28 rfl ?_
  refine go_iushr e10_30 ?_
  refine go_iand e10_31 ?_
  refine go_ifeqY e10_32 (tg := 84) (by decide) (by decide) ?_
  refine go_iinc_4 e10_84 (z := 1) rfl ?_
  refine go_goto e10_87 (tg := 18) (by decide) ?_
  refine go_iload e10_18 rfl ?_
  refine go_bipush e10_20 (x := 16) rfl ?_
  refine go_icgeN e10_22 (tg := 90) (by decide) (by decide) ?_
  refine go_iloadN e10_25 rfl ?_
  refine go_ldc e10_26 (wd 70 rfl) ?_
  refine go_iload e10_28 rfl ?_
  refine go_iushr e10_30 ?_
  refine go_iand e10_31 ?_
  refine go_ifeqY e10_32 (tg := 84) (by decide) (by decide) ?_
  refine go_iinc_4 e10_84 (z := 1) rfl ?_
  refine go_goto e10_87 (tg := 18) (by decide) ?_
  refine go_iload e10_18 rfl ?_
  refine go_bipush e10_20 (x := 16) rfl ?_
  refine go_icgeN e10_22 (tg := 90) (by decide) (by decide) ?_
  refine go_iloadN e10_25 rfl ?_
  refine go_ldc e10_26 (wd 70 rfl) ?_
  refine go_iload e10_28 rfl ?_
  refine go_iushr e10_30 ?_
  refine go_iand e10_31 ?_
  refine go_ifeqY e10_32 (tg := 84) (by decide) (by decide) ?_
  refine go_iinc_4 e10_84 (z := 1) rfl ?_
  refine go_goto e10_87 (tg := 18) (by decide) ?_
  refine go_iload e10_18 rfl ?_
  refine go_bipush e10_20 (x := 16) rfl ?_
  refine go_icgeN e10_22 (tg := 90) (by decide) (by decide) ?_
  refine go_iloadN e10_25 rfl ?_
  refine go_ldc e10_26 (wd 70 rfl) ?_
  refine go_iload e10_28 rfl ?_
  refine go_iushr e10_30 ?_
  refine go_iand e10_31 ?_
  refine go_ifeqY e10_32 (tg := 84) (by decide) (by decide) ?_
  refine go_iinc_4 e10_84 (z := 1) rfl ?_
  refine go_goto e10_87 (tg := 18) (by decide) ?_
  refine go_iload e10_18 rfl ?_
  refine go_bipush e10_20 (x := 16) rfl ?_
  refine go_icgeY e10_22 (tg := 90) (by decide) (by decide) ?_
  refine go_iloadN e10_90 rfl ?_
  refine go_ifneY e10_91 (tg := 111) (by decide) (by decide) ?_
  refine go_aloadN e10_111 rfl rfl ?_
  refine go_iloadN e10_112 rfl ?_
  refine go_static_2 e10_113 (wd 71 rfl) (wd 72 rfl) (wd 74 rfl) (wd 73 rfl) hy_8 pd_12 rfl (c_copy hw (n := 1) rfl (own_zi hzs) (by rw [List.length_set]; omega) (by decide) (by rw [List.length_set]; omega)) rfl 0 rfl (by decide) (by decide) (by decide) (by decide) ?_
  rintro _ _ ⟨ws, rfl, hwl, hws, rfl⟩
  obtain rfl := own_one hwl (by rw [hws, if_pos (by rw [List.length_set]; omega), List.getElem?_set, if_pos rfl, if_pos (by omega)])
  try simp only [List.replicate_succ, List.replicate_zero, List.set_cons_zero, List.set_cons_succ, List.length_nil, List.length_cons, Nat.zero_add, Nat.reduceAdd, List.nil_append, List.cons_append]
  refine go_areturn e10_116 rfl rfl rfl (by decide) (by decide) ?_
  exact ⟨_, rfl, _, _, rfl, hb2, rfl⟩
set_option maxRecDepth 65536 in
set_option maxHeartbeats 4000000 in
theorem c_sel {l : Launch} {Z : State} {a0 : Array Value} {b : Nat} (hw : ∀ d ∈ tables_1, d.before a0 Z = true) {o N : Nat} {bb : Int64} {tl : List (String × String × Value)} {vs : List Value} (hN : N ≤ 1000) {c2 : GCell} {c3 : GCell} {c4 : GCell} (hx : Nx vs (o + 22) [0, 33]) (hv : bb.toBitVec.toNat % 2 ^ 4 = 0) (hO : o + 24 ≤ N) :
    Met l Z a0 b (⟨"com/example/deltaweave/deltaweave/format/Bzip2InputStream", "readSelectors", "(I)[B"⟩ : MethodName) prog_14_method_11_code 8 (some (.array .byte)) ({ frames := 2, cells := 2, slots := 3, locals := 26 } : Room) [.ref 1, .int 2] [ar .byte vs, Bz (.ref 2) 0 (o + 22) N 4 bb tl, c2, c3, c4] (fun r H' => ∃ u, r = some u ∧ (∃ (us : List Value) (b2 : Int64), u = .ref 5 ∧ b2.toBitVec.toNat % 2 ^ 4 = 1 ∧ H' = [ar .byte vs, Bz (.ref 2) 0 (o + 24) N 4 b2 tl, c2, c3, c4, ar .byte [.int 0], ar .byte us])) := by
  refine Met.of_go hw (plainFor_of_name pn_2) (L0 := [.val (.ref 1), .val (.int 2), .unset, .unset, .unset, .unset, .unset, .unset]) rfl ?_
  intro p e s m args below meth c C
  refine go_aloadN e13_0 rfl rfl ?_
  refine go_bipush e13_1 (x := 15) rfl ?_
  refine go_private_1 e13_3 (Or.inl (wd 24 rfl)) (wd 26 rfl) (wd 2 rfl) (wd 25 rfl) (wd 27 rfl) (wd 3 rfl) hy_3 pd_16 rfl (c_bits hw (j := o + 22) (n := 15) (k := 4) (k2 := 5) (xs := [0, 33]) (R := 1) (V2 := 1) (j2 := (o + 24)) rfl rfl hx hv (fun i hi => by simp only [List.length_cons, List.length_nil] at hi; omega) (by simp only [List.length_cons, List.length_nil]; omega) rfl (by decide) (by omega) (by decide) (by decide) (by decide) (by decide) (by decide) (by decide) rfl) rfl rfl 0 rfl (by decide) (by decide) (by decide) (by decide) ?_
  rintro _ _ ⟨b1, rfl, hb1, rfl⟩
  try simp only [List.replicate_succ, List.replicate_zero, List.set_cons_zero, List.set_cons_succ, List.length_nil, List.length_cons, Nat.zero_add, Nat.reduceAdd, List.nil_append, List.cons_append]
  refine go_istore_2 e13_6 rfl ?_
  refine go_iloadN e13_7 rfl ?_
  refine go_ifneY e13_8 (tg := 28) (by decide) (by decide) ?_
  refine go_iloadN e13_28 rfl ?_
  refine go_newarray e13_29 (wd 0 rfl) (k := 1) rfl (vs := [.int 0]) rfl (cap := 1) (by decide) (by decide) (by decide) (by decide) ?_
  simp only [List.replicate_succ, List.replicate_zero, List.set_cons_zero, List.set_cons_succ, List.length_nil, List.length_cons, Nat.zero_add, Nat.reduceAdd, List.nil_append, List.cons_append]
  refine go_astore_3 e13_31 rfl rfl ?_
  refine go_iloadN e13_32 rfl ?_
  refine go_newarray e13_33 (wd 0 rfl) (k := 2) rfl (vs := [.int 0, .int 0]) rfl (cap := 2) (by decide) (by decide) (by decide) (by decide) ?_
  simp only [List.replicate_succ, List.replicate_zero, List.set_cons_zero, List.set_cons_succ, List.length_nil, List.length_cons, Nat.zero_add, Nat.reduceAdd, List.nil_append, List.cons_append]
  refine go_astore_4 e13_35 rfl rfl ?_
  refine go_iconst e13_37 (x := 0) rfl ?_
  refine go_istore_5 e13_38 rfl ?_
  refine go_iload e13_40 rfl ?_
  refine go_iloadN e13_42 rfl ?_
  refine go_icgeN e13_43 (tg := 60) (by decide) (by decide) ?_
  refine go_aload e13_46 rfl rfl ?_
  refine go_iload e13_48 rfl ?_
  refine go_iload e13_50 rfl ?_
  refine go_i2b e13_52 ?_
  refine go_bastore e13_53 rfl (k := 0) (by decide) (Nat.le_of_ble_eq_true rfl) ?_
  simp only [List.replicate_succ, List.replicate_zero, List.set_cons_zero, List.set_cons_succ, List.length_nil, List.length_cons, Nat.zero_add, Nat.reduceAdd, List.nil_append, List.cons_append]
  refine go_iinc_5 e13_54 (z := 1) rfl ?_
  refine go_goto e13_57 (tg := 40) (by decide) ?_
  refine go_iload e13_40 rfl ?_
  refine go_iloadN e13_42 rfl ?_
  refine go_icgeN e13_43 (tg := 60) (by decide) (by decide) ?_
  refine go_aload e13_46 rfl rfl ?_
  refine go_iload e13_48 rfl ?_
  refine go_iload e13_50 rfl ?_
  refine go_i2b e13_52 ?_
  refine go_bastore e13_53 rfl (k := 1) (by decide) (Nat.le_of_ble_eq_true rfl) ?_
  simp only [List.replicate_succ, List.replicate_zero, List.set_cons_zero, List.set_cons_succ, List.length_nil, List.length_cons, Nat.zero_add, Nat.reduceAdd, List.nil_append, List.cons_append]
  refine go_iinc_5 e13_54 (z := 1) rfl ?_
  refine go_goto e13_57 (tg := 40) (by decide) ?_
  refine go_iload e13_40 rfl ?_
  refine go_iloadN e13_42 rfl ?_
  refine go_icgeY e13_43 (tg := 60) (by decide) (by decide) ?_
  refine go_iconst e13_60 (x := 0) rfl ?_
  refine go_istore_5 e13_61 rfl ?_
  refine go_iload e13_63 rfl ?_
  refine go_iloadN e13_65 rfl ?_
  refine go_icgeN e13_66 (tg := 146) (by decide) (by decide) ?_
  refine go_iconst e13_69 (x := 0) rfl ?_
  refine go_istore_6 e13_70 rfl ?_
  refine go_aloadN e13_72 rfl rfl ?_
  refine go_iconst e13_73 (x := 1) rfl ?_
  refine go_private_1 e13_74 (Or.inl (wd 24 rfl)) (wd 26 rfl) (wd 2 rfl) (wd 25 rfl) (wd 27 rfl) (wd 3 rfl) hy_3 pd_16 rfl (c_bits hw (j := o + 24) (n := 1) (k := 5) (k2 := 4) (xs := []) (R := 0) (V2 := 1) (j2 := (o + 24)) rfl rfl trivial hb1 (fun i hi => absurd hi (Nat.not_lt_zero _)) (by simp only [List.length_cons, List.length_nil]; omega) rfl (by decide) (by omega) (by decide) (by decide) (by decide) (by decide) (by decide) (by decide) rfl) rfl rfl 0 rfl (by decide) (by decide) (by decide) (by decide) ?_
  rintro _ _ ⟨b2, rfl, hb2, rfl⟩
  try simp only [List.replicate_succ, List.replicate_zero, List.set_cons_zero, List.set_cons_succ, List.length_nil, List.length_cons, Nat.zero_add, Nat.reduceAdd, List.nil_append, List.cons_append]
  refine go_iconst e13_77 (x := 1) rfl ?_
  refine go_icneY e13_78 (tg := 110) (by decide) (by decide) ?_
  refine go_aload e13_110 rfl rfl ?_
  refine go_iload e13_112 rfl ?_
  refine go_baload e13_114 rfl (k := 0) (by decide) rfl ?_
  refine go_istore_7 e13_115 rfl ?_
  refine go_aload e13_117 rfl rfl ?_
  refine go_iconst e13_119 (x := 0) rfl ?_
  refine go_aload e13_120 rfl rfl ?_
  refine go_iconst e13_122 (x := 1) rfl ?_
  refine go_iload e13_123 rfl ?_
  refine go_arraycopy e13_125 (wd 87 rfl) (wd 82 rfl) (wd 80 rfl) (wd 81 rfl) rfl rfl rfl (sp := 0) (dp := 1) (n := 0) rfl rfl rfl (Nat.le_of_ble_eq_true rfl) (Nat.le_of_ble_eq_true rfl) (vs' := _) (fun t ht => absurd ht (Nat.not_lt_zero _)) own_cp0 rfl (by decide) 0 (Nat.le_of_eq rfl) (by decide) ?_
  simp only [List.replicate_succ, List.replicate_zero, List.set_cons_zero, List.set_cons_succ, List.length_nil, List.length_cons, Nat.zero_add, Nat.reduceAdd, List.nil_append, List.cons_append]
  refine go_aload e13_128 rfl rfl ?_
  refine go_iconst e13_130 (x := 0) rfl ?_
  refine go_iload e13_131 rfl ?_
  refine go_bastore e13_133 rfl (k := 0) (by decide) (Nat.le_of_ble_eq_true rfl) ?_
  simp only [List.replicate_succ, List.replicate_zero, List.set_cons_zero, List.set_cons_succ, List.length_nil, List.length_cons, Nat.zero_add, Nat.reduceAdd, List.nil_append, List.cons_append]
  refine go_aloadN e13_134 rfl rfl ?_
  refine go_iload e13_135 rfl ?_
  refine go_iload e13_137 rfl ?_
  refine go_bastore e13_139 rfl (k := 0) (by decide) (Nat.le_of_ble_eq_true rfl) ?_
  simp only [List.replicate_succ, List.replicate_zero, List.set_cons_zero, List.set_cons_succ, List.length_nil, List.length_cons, Nat.zero_add, Nat.reduceAdd, List.nil_append, List.cons_append]
  refine go_iinc_5 e13_140 (z := 1) rfl ?_
  refine go_goto e13_143 (tg := 63) (by decide) ?_
  refine go_iload e13_63 rfl ?_
  refine go_iloadN e13_65 rfl ?_
  refine go_icgeY e13_66 (tg := 146) (by decide) (by decide) ?_
  refine go_aloadN e13_146 rfl rfl ?_
  refine go_areturn e13_147 rfl rfl rfl (by decide) (by decide) ?_
  exact ⟨_, rfl, _, _, rfl, hb2, rfl⟩
set_option maxRecDepth 65536 in
set_option maxHeartbeats 4000000 in
theorem c_cl1 {l : Launch} {Z : State} {a0 : Array Value} {b : Nat} (hw : ∀ d ∈ tables_1, d.before a0 Z = true) {o N : Nat} {bb : Int64} {tl : List (String × String × Value)} {vs : List Value} (hN : N ≤ 1000) {c2 : GCell} {c3 : GCell} {c4 : GCell} {c5 : GCell} {c6 : GCell} {c7 : GCell} {c8 : GCell} (hx : Nx vs (o + 24) [1]) (hv : bb.toBitVec.toNat % 2 ^ 4 = 1) (hO : o + 25 ≤ N) :
    Met l Z a0 b (⟨"com/example/deltaweave/deltaweave/format/Bzip2InputStream", "readCodeLengths", "(I)[I"⟩ : MethodName) prog_14_method_12_code 5 (some (.array .int)) ({ frames := 2, cells := 1, slots := 3, locals := 27 } : Room) [.ref 1, .int 3] [ar .byte vs, Bz (.ref 2) 0 (o + 24) N 4 bb tl, c2, c3, c4, c5, c6, c7, c8] (fun r H' => ∃ u, r = some u ∧ (∃ b2 : Int64, u = .ref 9 ∧ b2.toBitVec.toNat % 2 ^ 4 = 1 ∧ H' = [ar .byte vs, Bz (.ref 2) 0 (o + 25) N 4 b2 tl, c2, c3, c4, c5, c6, c7, c8, ar .int [.int 2, .int 2, .int 2]])) := by
  refine Met.of_go hw (plainFor_of_name pn_2) (L0 := [.val (.ref 1), .val (.int 3), .unset, .unset, .unset]) rfl ?_
  intro p e s m args below meth c C
  refine go_iloadN e14_0 rfl ?_
  refine go_newarray e14_1 (wd 15 rfl) (k := 3) rfl (vs := [.int 0, .int 0, .int 0]) rfl (cap := 3) (by decide) (by decide) (by decide) (by decide) ?_
  simp only [List.replicate_succ, List.replicate_zero, List.set_cons_zero, List.set_cons_succ, List.length_nil, List.length_cons, Nat.zero_add, Nat.reduceAdd, List.nil_append, List.cons_append]
  refine go_astore_2 e14_3 rfl rfl ?_
  refine go_aloadN e14_4 rfl rfl ?_
  refine go_iconst e14_5 (x := 5) rfl ?_
  refine go_private_1 e14_6 (Or.inl (wd 24 rfl)) (wd 26 rfl) (wd 2 rfl) (wd 25 rfl) (wd 27 rfl) (wd 3 rfl) hy_3 pd_16 rfl (c_bits hw (j := o + 24) (n := 5) (k := 4) (k2 := 7) (xs := [1]) (R := 2) (V2 := 1) (j2 := (o + 25)) rfl rfl hx hv (fun i hi => by simp only [List.length_cons, List.length_nil] at hi; omega) (by simp only [List.length_cons, List.length_nil]; omega) rfl (by decide) (by omega) (by decide) (by decide) (by decide) (by decide) (by decide) (by decide) rfl) rfl rfl 0 rfl (by decide) (by decide) (by decide) (by decide) ?_
  rintro _ _ ⟨b1, rfl, hb1, rfl⟩
  try simp only [List.replicate_succ, List.replicate_zero, List.set_cons_zero, List.set_cons_succ, List.length_nil, List.length_cons, Nat.zero_add, Nat.reduceAdd, List.nil_append, List.cons_append]
  refine go_istore_3 e14_9 rfl ?_
  refine go_iconst e14_10 (x := 0) rfl ?_
  refine go_istore_4 e14_11 rfl ?_
  refine go_iload e14_13 rfl ?_
  refine go_iloadN e14_15 rfl ?_
  refine go_icgeN e14_16 (tg := 89) (by decide) (by decide) ?_
  refine go_iloadN e14_19 rfl ?_
  refine go_iconst e14_20 (x := 1) rfl ?_
  refine go_icltN e14_21 (tg := 30) (by decide) (by decide) ?_
  refine go_iloadN e14_24 rfl ?_
  refine go_bipush e14_25 (x := 20) rfl ?_
  refine go_icleY e14_27 (tg := 48) (by decide) (by decide) ?_
  refine go_aloadN e14_48 rfl rfl ?_
  refine go_iconst e14_49 (x := 1) rfl ?_
  refine go_private_1 e14_50 (Or.inl (wd 24 rfl)) (wd 26 rfl) (wd 2 rfl) (wd 25 rfl) (wd 27 rfl) (wd 3 rfl) hy_3 pd_16 rfl (c_bits hw (j := o + 25) (n := 1) (k := 7) (k2 := 6) (xs := []) (R := 0) (V2 := 1) (j2 := (o + 25)) rfl rfl trivial hb1 (fun i hi => absurd hi (Nat.not_lt_zero _)) (by simp only [List.length_cons, List.length_nil]; omega) rfl (by decide) (by omega) (by decide) (by decide) (by decide) (by decide) (by decide) (by decide) rfl) rfl rfl 0 rfl (by decide) (by decide) (by decide) (by decide) ?_
  rintro _ _ ⟨b2, rfl, hb2, rfl⟩
  try simp only [List.replicate_succ, List.replicate_zero, List.set_cons_zero, List.set_cons_succ, List.length_nil, List.length_cons, Nat.zero_add, Nat.reduceAdd, List.nil_append, List.cons_append]
  refine go_ifneN e14_53 (tg := 59) (by decide) (by decide) ?_
  refine go_goto e14_56 (tg := 78) (by decide) ?_
  refine go_aloadN e14_78 rfl rfl ?_
  refine go_iload e14_79 rfl ?_
  refine go_iloadN e14_81 rfl ?_
  refine go_iastore e14_82 rfl (k := 0) (by decide) (Nat.le_of_ble_eq_true rfl) ?_
  simp only [List.replicate_succ, List.replicate_zero, List.set_cons_zero, List.set_cons_succ, List.length_nil, List.length_cons, Nat.zero_add, Nat.reduceAdd, List.nil_append, List.cons_append]
  refine go_iinc_4 e14_83 (z := 1) rfl ?_
  refine go_goto e14_86 (tg := 13) (by decide) ?_
  refine go_iload e14_13 rfl ?_
  refine go_iloadN e14_15 rfl ?_
  refine go_icgeN e14_16 (tg := 89) (by decide) (by decide) ?_
  refine go_iloadN e14_19 rfl ?_
  refine go_iconst e14_20 (x := 1) rfl ?_
  refine go_icltN e14_21 (tg := 30) (by decide) (by decide) ?_
  refine go_iloadN e14_24 rfl ?_
  refine go_bipush e14_25 (x := 20) rfl ?_
  refine go_icleY e14_27 (tg := 48) (by decide) (by decide) ?_
  refine go_aloadN e14_48 rfl rfl ?_
  refine go_iconst e14_49 (x := 1) rfl ?_
  refine go_private_1 e14_50 (Or.inl (wd 24 rfl)) (wd 26 rfl) (wd 2 rfl) (wd 25 rfl) (wd 27 rfl) (wd 3 rfl) hy_3 pd_16 rfl (c_bits hw (j := o + 25) (n := 1) (k := 6) (k2 := 5) (xs := []) (R := 0) (V2 := 1) (j2 := (o + 25)) rfl rfl trivial hb2 (fun i hi => absurd hi (Nat.not_lt_zero _)) (by simp only [List.length_cons, List.length_nil]; omega) rfl (by decide) (by omega) (by decide) (by decide) (by decide) (by decide) (by decide) (by decide) rfl) rfl rfl 0 rfl (by decide) (by decide) (by decide) (by decide) ?_
  rintro _ _ ⟨b3, rfl, hb3, rfl⟩
  try simp only [List.replicate_succ, List.replicate_zero, List.set_cons_zero, List.set_cons_succ, List.length_nil, List.length_cons, Nat.zero_add, Nat.reduceAdd, List.nil_append, List.cons_append]
  refine go_ifneN e14_53 (tg := 59) (by decide) (by decide) ?_
  refine go_goto e14_56 (tg := 78) (by decide) ?_
  refine go_aloadN e14_78 rfl rfl ?_
  refine go_iload e14_79 rfl ?_
  refine go_iloadN e14_81 rfl ?_
  refine go_iastore e14_82 rfl (k := 1) (by decide) (Nat.le_of_ble_eq_true rfl) ?_
  simp only [List.replicate_succ, List.replicate_zero, List.set_cons_zero, List.set_cons_succ, List.length_nil, List.length_cons, Nat.zero_add, Nat.reduceAdd, List.nil_append, List.cons_append]
  refine go_iinc_4 e14_83 (z := 1) rfl ?_
  refine go_goto e14_86 (tg := 13) (by decide) ?_
  refine go_iload e14_13 rfl ?_
  refine go_iloadN e14_15 rfl ?_
  refine go_icgeN e14_16 (tg := 89) (by decide) (by decide) ?_
  refine go_iloadN e14_19 rfl ?_
  refine go_iconst e14_20 (x := 1) rfl ?_
  refine go_icltN e14_21 (tg := 30) (by decide) (by decide) ?_
  refine go_iloadN e14_24 rfl ?_
  refine go_bipush e14_25 (x := 20) rfl ?_
  refine go_icleY e14_27 (tg := 48) (by decide) (by decide) ?_
  refine go_aloadN e14_48 rfl rfl ?_
  refine go_iconst e14_49 (x := 1) rfl ?_
  refine go_private_1 e14_50 (Or.inl (wd 24 rfl)) (wd 26 rfl) (wd 2 rfl) (wd 25 rfl) (wd 27 rfl) (wd 3 rfl) hy_3 pd_16 rfl (c_bits hw (j := o + 25) (n := 1) (k := 5) (k2 := 4) (xs := []) (R := 0) (V2 := 1) (j2 := (o + 25)) rfl rfl trivial hb3 (fun i hi => absurd hi (Nat.not_lt_zero _)) (by simp only [List.length_cons, List.length_nil]; omega) rfl (by decide) (by omega) (by decide) (by decide) (by decide) (by decide) (by decide) (by decide) rfl) rfl rfl 0 rfl (by decide) (by decide) (by decide) (by decide) ?_
  rintro _ _ ⟨b4, rfl, hb4, rfl⟩
  try simp only [List.replicate_succ, List.replicate_zero, List.set_cons_zero, List.set_cons_succ, List.length_nil, List.length_cons, Nat.zero_add, Nat.reduceAdd, List.nil_append, List.cons_append]
  refine go_ifneN e14_53 (tg := 59) (by decide) (by decide) ?_
  refine go_goto e14_56 (tg := 78) (by decide) ?_
  refine go_aloadN e14_78 rfl rfl ?_
  refine go_iload e14_79 rfl ?_
  refine go_iloadN e14_81 rfl ?_
  refine go_iastore e14_82 rfl (k := 2) (by decide) (Nat.le_of_ble_eq_true rfl) ?_
  simp only [List.replicate_succ, List.replicate_zero, List.set_cons_zero, List.set_cons_succ, List.length_nil, List.length_cons, Nat.zero_add, Nat.reduceAdd, List.nil_append, List.cons_append]
  refine go_iinc_4 e14_83 (z := 1) rfl ?_
  refine go_goto e14_86 (tg := 13) (by decide) ?_
  refine go_iload e14_13 rfl ?_
  refine go_iloadN e14_15 rfl ?_
  refine go_icgeY e14_16 (tg := 89) (by decide) (by decide) ?_
  refine go_aloadN e14_89 rfl rfl ?_
  refine go_areturn e14_90 rfl rfl rfl (by decide) (by decide) ?_
  exact ⟨_, rfl, _, rfl, hb4, rfl⟩
set_option maxRecDepth 65536 in
set_option maxHeartbeats 4000000 in
theorem c_cl2 {l : Launch} {Z : State} {a0 : Array Value} {b : Nat} (hw : ∀ d ∈ tables_1, d.before a0 Z = true) {o N : Nat} {bb : Int64} {tl : List (String × String × Value)} {vs : List Value} (hN : N ≤ 1000) {c2 : GCell} {c3 : GCell} {c4 : GCell} {c5 : GCell} {c6 : GCell} {c7 : GCell} {c8 : GCell} {c9 : GCell} {c10 : GCell} {c11 : GCell} {c12 : GCell} {c13 : GCell} {c14 : GCell} {c15 : GCell} {c16 : GCell} (hx : Nx vs (o + 25) [2]) (hv : bb.toBitVec.toNat % 2 ^ 4 = 1) (hO : o + 26 ≤ N) :
    Met l Z a0 b (⟨"com/example/deltaweave/deltaweave/format/Bzip2InputStream", "readCodeLengths", "(I)[I"⟩ : MethodName) prog_14_method_12_code 5 (some (.array .int)) ({ frames := 2, cells := 1, slots := 3, locals := 27 } : Room) [.ref 1, .int 3] [ar .byte vs, Bz (.ref 2) 0 (o + 25) N 4 bb tl, c2, c3, c4, c5, c6, c7, c8, c9, c10, c11, c12, c13, c14, c15, c16] (fun r H' => ∃ u, r = some u ∧ (∃ b2 : Int64, u = .ref 17 ∧ b2.toBitVec.toNat % 2 ^ 4 = 2 ∧ H' = [ar .byte vs, Bz (.ref 2) 0 (o + 26) N 4 b2 tl, c2, c3, c4, c5, c6, c7, c8, c9, c10, c11, c12, c13, c14, c15, c16, ar .int [.int 2, .int 2, .int 2]])) := by
  refine Met.of_go hw (plainFor_of_name pn_2) (L0 := [.val (.ref 1), .val (.int 3), .unset, .unset, .unset]) rfl ?_
  intro p e s m args below meth c C
  refine go_iloadN e14_0 rfl ?_
  refine go_newarray e14_1 (wd 15 rfl) (k := 3) rfl (vs := [.int 0, .int 0, .int 0]) rfl (cap := 3) (by decide) (by decide) (by decide) (by decide) ?_
  simp only [List.replicate_succ, List.replicate_zero, List.set_cons_zero, List.set_cons_succ, List.length_nil, List.length_cons, Nat.zero_add, Nat.reduceAdd, List.nil_append, List.cons_append]
  refine go_astore_2 e14_3 rfl rfl ?_
  refine go_aloadN e14_4 rfl rfl ?_
  refine go_iconst e14_5 (x := 5) rfl ?_
  refine go_private_1 e14_6 (Or.inl (wd 24 rfl)) (wd 26 rfl) (wd 2 rfl) (wd 25 rfl) (wd 27 rfl) (wd 3 rfl) hy_3 pd_16 rfl (c_bits hw (j := o + 25) (n := 5) (k := 4) (k2 := 7) (xs := [2]) (R := 2) (V2 := 2) (j2 := (o + 26)) rfl rfl hx hv (fun i hi => by simp only [List.length_cons, List.length_nil] at hi; omega) (by simp only [List.length_cons, List.length_nil]; omega) rfl (by decide) (by omega) (by decide) (by decide) (by decide) (by decide) (by decide) (by decide) rfl) rfl rfl 0 rfl (by decide) (by decide) (by decide) (by decide) ?_
  rintro _ _ ⟨b1, rfl, hb1, rfl⟩
  try simp only [List.replicate_succ, List.replicate_zero, List.set_cons_zero, List.set_cons_succ, List.length_nil, List.length_cons, Nat.zero_add, Nat.reduceAdd, List.nil_append, List.cons_append]
  refine go_istore_3 e14_9 rfl ?_
  refine go_iconst e14_10 (x := 0) rfl ?_
  refine go_istore_4 e14_11 rfl ?_
  refine go_iload e14_13 rfl ?_
  refine go_iloadN e14_15 rfl ?_
  refine go_icgeN e14_16 (tg := 89) (by decide) (by decide) ?_
  refine go_iloadN e14_19 rfl ?_
  refine go_iconst e14_20 (x := 1) rfl ?_
  refine go_icltN e14_21 (tg := 30) (by decide) (by decide) ?_
  refine go_iloadN e14_24 rfl ?_
  refine go_bipush e14_25 (x := 20) rfl ?_
  refine go_icleY e14_27 (tg := 48) (by decide) (by decide) ?_
  refine go_aloadN e14_48 rfl rfl ?_
  refine go_iconst e14_49 (x := 1) rfl ?_
  refine go_private_1 e14_50 (Or.inl (wd 24 rfl)) (wd 26 rfl) (wd 2 rfl) (wd 25 rfl) (wd 27 rfl) (wd 3 rfl) hy_3 pd_16 rfl (c_bits hw (j := o + 26) (n := 1) (k := 7) (k2 := 6) (xs := []) (R := 0) (V2 := 2) (j2 := (o + 26)) rfl rfl trivial hb1 (fun i hi => absurd hi (Nat.not_lt_zero _)) (by simp only [List.length_cons, List.length_nil]; omega) rfl (by decide) (by omega) (by decide) (by decide) (by decide) (by decide) (by decide) (by decide) rfl) rfl rfl 0 rfl (by decide) (by decide) (by decide) (by decide) ?_
  rintro _ _ ⟨b2, rfl, hb2, rfl⟩
  try simp only [List.replicate_succ, List.replicate_zero, List.set_cons_zero, List.set_cons_succ, List.length_nil, List.length_cons, Nat.zero_add, Nat.reduceAdd, List.nil_append, List.cons_append]
  refine go_ifneN e14_53 (tg := 59) (by decide) (by decide) ?_
  refine go_goto e14_56 (tg := 78) (by decide) ?_
  refine go_aloadN e14_78 rfl rfl ?_
  refine go_iload e14_79 rfl ?_
  refine go_iloadN e14_81 rfl ?_
  refine go_iastore e14_82 rfl (k := 0) (by decide) (Nat.le_of_ble_eq_true rfl) ?_
  simp only [List.replicate_succ, List.replicate_zero, List.set_cons_zero, List.set_cons_succ, List.length_nil, List.length_cons, Nat.zero_add, Nat.reduceAdd, List.nil_append, List.cons_append]
  refine go_iinc_4 e14_83 (z := 1) rfl ?_
  refine go_goto e14_86 (tg := 13) (by decide) ?_
  refine go_iload e14_13 rfl ?_
  refine go_iloadN e14_15 rfl ?_
  refine go_icgeN e14_16 (tg := 89) (by decide) (by decide) ?_
  refine go_iloadN e14_19 rfl ?_
  refine go_iconst e14_20 (x := 1) rfl ?_
  refine go_icltN e14_21 (tg := 30) (by decide) (by decide) ?_
  refine go_iloadN e14_24 rfl ?_
  refine go_bipush e14_25 (x := 20) rfl ?_
  refine go_icleY e14_27 (tg := 48) (by decide) (by decide) ?_
  refine go_aloadN e14_48 rfl rfl ?_
  refine go_iconst e14_49 (x := 1) rfl ?_
  refine go_private_1 e14_50 (Or.inl (wd 24 rfl)) (wd 26 rfl) (wd 2 rfl) (wd 25 rfl) (wd 27 rfl) (wd 3 rfl) hy_3 pd_16 rfl (c_bits hw (j := o + 26) (n := 1) (k := 6) (k2 := 5) (xs := []) (R := 0) (V2 := 2) (j2 := (o + 26)) rfl rfl trivial hb2 (fun i hi => absurd hi (Nat.not_lt_zero _)) (by simp only [List.length_cons, List.length_nil]; omega) rfl (by decide) (by omega) (by decide) (by decide) (by decide) (by decide) (by decide) (by decide) rfl) rfl rfl 0 rfl (by decide) (by decide) (by decide) (by decide) ?_
  rintro _ _ ⟨b3, rfl, hb3, rfl⟩
  try simp only [List.replicate_succ, List.replicate_zero, List.set_cons_zero, List.set_cons_succ, List.length_nil, List.length_cons, Nat.zero_add, Nat.reduceAdd, List.nil_append, List.cons_append]
  refine go_ifneN e14_53 (tg := 59) (by decide) (by decide) ?_
  refine go_goto e14_56 (tg := 78) (by decide) ?_
  refine go_aloadN e14_78 rfl rfl ?_
  refine go_iload e14_79 rfl ?_
  refine go_iloadN e14_81 rfl ?_
  refine go_iastore e14_82 rfl (k := 1) (by decide) (Nat.le_of_ble_eq_true rfl) ?_
  simp only [List.replicate_succ, List.replicate_zero, List.set_cons_zero, List.set_cons_succ, List.length_nil, List.length_cons, Nat.zero_add, Nat.reduceAdd, List.nil_append, List.cons_append]
  refine go_iinc_4 e14_83 (z := 1) rfl ?_
  refine go_goto e14_86 (tg := 13) (by decide) ?_
  refine go_iload e14_13 rfl ?_
  refine go_iloadN e14_15 rfl ?_
  refine go_icgeN e14_16 (tg := 89) (by decide) (by decide) ?_
  refine go_iloadN e14_19 rfl ?_
  refine go_iconst e14_20 (x := 1) rfl ?_
  refine go_icltN e14_21 (tg := 30) (by decide) (by decide) ?_
  refine go_iloadN e14_24 rfl ?_
  refine go_bipush e14_25 (x := 20) rfl ?_
  refine go_icleY e14_27 (tg := 48) (by decide) (by decide) ?_
  refine go_aloadN e14_48 rfl rfl ?_
  refine go_iconst e14_49 (x := 1) rfl ?_
  refine go_private_1 e14_50 (Or.inl (wd 24 rfl)) (wd 26 rfl) (wd 2 rfl) (wd 25 rfl) (wd 27 rfl) (wd 3 rfl) hy_3 pd_16 rfl (c_bits hw (j := o + 26) (n := 1) (k := 5) (k2 := 4) (xs := []) (R := 0) (V2 := 2) (j2 := (o + 26)) rfl rfl trivial hb3 (fun i hi => absurd hi (Nat.not_lt_zero _)) (by simp only [List.length_cons, List.length_nil]; omega) rfl (by decide) (by omega) (by decide) (by decide) (by decide) (by decide) (by decide) (by decide) rfl) rfl rfl 0 rfl (by decide) (by decide) (by decide) (by decide) ?_
  rintro _ _ ⟨b4, rfl, hb4, rfl⟩
  try simp only [List.replicate_succ, List.replicate_zero, List.set_cons_zero, List.set_cons_succ, List.length_nil, List.length_cons, Nat.zero_add, Nat.reduceAdd, List.nil_append, List.cons_append]
  refine go_ifneN e14_53 (tg := 59) (by decide) (by decide) ?_
  refine go_goto e14_56 (tg := 78) (by decide) ?_
  refine go_aloadN e14_78 rfl rfl ?_
  refine go_iload e14_79 rfl ?_
  refine go_iloadN e14_81 rfl ?_
  refine go_iastore e14_82 rfl (k := 2) (by decide) (Nat.le_of_ble_eq_true rfl) ?_
  simp only [List.replicate_succ, List.replicate_zero, List.set_cons_zero, List.set_cons_succ, List.length_nil, List.length_cons, Nat.zero_add, Nat.reduceAdd, List.nil_append, List.cons_append]
  refine go_iinc_4 e14_83 (z := 1) rfl ?_
  refine go_goto e14_86 (tg := 13) (by decide) ?_
  refine go_iload e14_13 rfl ?_
  refine go_iloadN e14_15 rfl ?_
  refine go_icgeY e14_16 (tg := 89) (by decide) (by decide) ?_
  refine go_aloadN e14_89 rfl rfl ?_
  refine go_areturn e14_90 rfl rfl rfl (by decide) (by decide) ?_
  exact ⟨_, rfl, _, rfl, hb4, rfl⟩
set_option maxRecDepth 65536 in
set_option maxHeartbeats 4000000 in
theorem c_ht1 {l : Launch} {Z : State} {a0 : Array Value} {b : Nat} (hw : ∀ d ∈ tables_1, d.before a0 Z = true) {c0 : GCell} {c1 : GCell} {c2 : GCell} {c3 : GCell} {c4 : GCell} {c5 : GCell} {c6 : GCell} {c7 : GCell} :
    Met l Z a0 b (⟨"com/example/deltaweave/deltaweave/format/Bzip2InputStream$HuffmanTable", "<init>", "(Lcom/example/deltaweave/deltaweave/format/Bzip2InputStream;[I)V"⟩ : MethodName) prog_15_method_1_code 13 none ({ frames := 2, cells := 6, slots := 1111, locals := 30 } : Room) [.ref 8, .ref 1, .ref 9] [c0, c1, c2, c3, c4, c5, c6, c7, ob "com/example/deltaweave/deltaweave/format/Bzip2InputStream$HuffmanTable" [("this$0", "Lcom/example/deltaweave/deltaweave/format/Bzip2InputStream;", .null), ("lookup", "[I", .null), ("firstCode", "[I", .null), ("codeCount", "[I", .null), ("firstIndex", "[I", .null), ("symbolsByCode", "[I", .null)], ar .int [.int 2, .int 2, .int 2]] (fun r H' => r = none ∧ ∃ lv l1 l2 l3 l4 l5 : List Value, LkOk lv ∧ H' = [c0, c1, c2, c3, c4, c5, c6, c7, HT 1 (.ref 10) (.ref 11) (.ref 12) (.ref 13) (.ref 14), ar .int [.int 2, .int 2, .int 2], ar .int lv, ar .int l1, ar .int l2, ar .int l3, ar .int l4, ar .int l5]) := by
  refine Met.of_go hw (plainFor_of_name pn_15) (L0 := [.val (.ref 8), .val (.ref 1), .val (.ref 9), .unset, .unset, .unset, .unset, .unset, .unset, .unset, .unset, .unset, .unset]) rfl ?_
  intro p e s m args below meth c C
  refine go_aloadN e15_0 rfl rfl ?_
  refine go_aloadN e15_1 rfl rfl ?_
  refine go_putfield e15_2 (wd 99 rfl) (Or.inr ⟨(wd 100 rfl), rfl, rfl⟩) (wd 90 rfl) pf_17 rfl (j := 0) rfl rfl rfl ?_
  simp only [List.replicate_succ, List.replicate_zero, List.set_cons_zero, List.set_cons_succ, List.length_nil, List.length_cons, Nat.zero_add, Nat.reduceAdd, List.nil_append, List.cons_append]
  refine go_aloadN e15_5 rfl rfl ?_
  refine go_initO (C := C) e15_6 (wd 101 rfl) (wd 13 rfl) (wd (W := tables_1) 14 rfl) rfl (by decide) 0 (by decide) (by decide) ?_
  refine go_aloadN e15_9 rfl rfl ?_
  refine go_sipush e15_10 (x := 1024) rfl ?_
  obtain ⟨zs, hzs⟩ : ∃ zs, List.replicate 1024 (Value.int 0) = zs := ⟨_, rfl⟩
  have hzl : zs.length = 1024 := by rw [← hzs, List.length_replicate]
  refine go_newarray e15_13 (wd 15 rfl) (k := 1024) rfl (vs := zs) hzs (cap := 1024) (by decide) (by decide) (by decide) (by decide) ?_
  simp only [List.replicate_succ, List.replicate_zero, List.set_cons_zero, List.set_cons_succ, List.length_nil, List.length_cons, Nat.zero_add, Nat.reduceAdd, List.nil_append, List.cons_append]
  refine go_putfield e15_15 (wd 102 rfl) (Or.inr ⟨(wd 103 rfl), rfl, rfl⟩) (wd 90 rfl) pf_13 rfl (j := 1) rfl rfl rfl ?_
  simp only [List.replicate_succ, List.replicate_zero, List.set_cons_zero, List.set_cons_succ, List.length_nil, List.length_cons, Nat.zero_add, Nat.reduceAdd, List.nil_append, List.cons_append]
  refine go_aloadN e15_18 rfl rfl ?_
  refine go_bipush e15_19 (x := 21) rfl ?_
  refine go_newarray e15_21 (wd 15 rfl) (k := 21) rfl (vs := [.int 0, .int 0, .int 0, .int 0, .int 0, .int 0, .int 0, .int 0, .int 0, .int 0, .int 0, .int 0, .int 0, .int 0, .int 0, .int 0, .int 0, .int 0, .int 0, .int 0, .int 0]) rfl (cap := 21) (by decide) (by decide) (by decide) (by decide) ?_
  simp only [List.replicate_succ, List.replicate_zero, List.set_cons_zero, List.set_cons_succ, List.length_nil, List.length_cons, Nat.zero_add, Nat.reduceAdd, List.nil_append, List.cons_append]
  refine go_putfield e15_23 (wd 104 rfl) (Or.inr ⟨(wd 105 rfl), rfl, rfl⟩) (wd 90 rfl) pf_13 rfl (j := 2) rfl rfl rfl ?_
  simp only [List.replicate_succ, List.replicate_zero, List.set_cons_zero, List.set_cons_succ, List.length_nil, List.length_cons, Nat.zero_add, Nat.reduceAdd, List.nil_append, List.cons_append]
  refine go_aloadN e15_26 rfl rfl ?_
  refine go_bipush e15_27 (x := 21) rfl ?_
  refine go_newarray e15_29 (wd 15 rfl) (k := 21) rfl (vs := [.int 0, .int 0, .int 0, .int 0, .int 0, .int 0, .int 0, .int 0, .int 0, .int 0, .int 0, .int 0, .int 0, .int 0, .int 0, .int 0, .int 0, .int 0, .int 0, .int 0, .int 0]) rfl (cap := 21) (by decide) (by decide) (by decide) (by decide) ?_
  simp only [List.replicate_succ, List.replicate_zero, List.set_cons_zero, List.set_cons_succ, List.length_nil, List.length_cons, Nat.zero_add, Nat.reduceAdd, List.nil_append, List.cons_append]
  refine go_putfield e15_31 (wd 106 rfl) (Or.inr ⟨(wd 107 rfl), rfl, rfl⟩) (wd 90 rfl) pf_13 rfl (j := 3) rfl rfl rfl ?_
  simp only [List.replicate_succ, List.replicate_zero, List.set_cons_zero, List.set_cons_succ, List.length_nil, List.length_cons, Nat.zero_add, Nat.reduceAdd, List.nil_append, List.cons_append]
  refine go_aloadN e15_34 rfl rfl ?_
  refine go_bipush e15_35 (x := 21) rfl ?_
  refine go_newarray e15_37 (wd 15 rfl) (k := 21) rfl (vs := [.int 0, .int 0, .int 0, .int 0, .int 0, .int 0, .int 0, .int 0, .int 0, .int 0, .int 0, .int 0, .int 0, .int 0, .int 0, .int 0, .int 0, .int 0, .int 0, .int 0, .int 0]) rfl (cap := 21) (by decide) (by decide) (by decide) (by decide) ?_
  simp only [List.replicate_succ, List.replicate_zero, List.set_cons_zero, List.set_cons_succ, List.length_nil, List.length_cons, Nat.zero_add, Nat.reduceAdd, List.nil_append, List.cons_append]
  refine go_putfield e15_39 (wd 108 rfl) (Or.inr ⟨(wd 109 rfl), rfl, rfl⟩) (wd 90 rfl) pf_13 rfl (j := 4) rfl rfl rfl ?_
  simp only [List.replicate_succ, List.replicate_zero, List.set_cons_zero, List.set_cons_succ, List.length_nil, List.length_cons, Nat.zero_add, Nat.reduceAdd, List.nil_append, List.cons_append]
  refine go_aloadN e15_42 rfl rfl ?_
  refine go_astore_3 e15_43 rfl rfl ?_
  refine go_aloadN e15_44 rfl rfl ?_
  refine go_len e15_45 rfl (n := 3) rfl ?_
  refine go_istore_4 e15_46 rfl ?_
  refine go_iconst e15_48 (x := 0) rfl ?_
  refine go_istore_5 e15_49 rfl ?_
  refine go_iload e15_51 rfl ?_
  refine go_iload e15_53 rfl ?_
  refine go_icgeN e15_55 (tg := 81) (by decide) (by decide) ?_
  refine go_aloadN e15_58 rfl rfl ?_
  refine go_iload e15_59 rfl ?_
  refine go_iaload e15_61 rfl (k := 0) (by decide) rfl ?_
  refine go_istore_6 e15_62 rfl ?_
  refine go_aloadN e15_64 rfl rfl ?_
  refine go_getfield e15_65 (wd 106 rfl) rfl (j := 3) rfl ?_
  refine go_iload e15_68 rfl ?_
  refine go_dup2 e15_70 rfl rfl ?_
  refine go_iaload e15_71 rfl (k := 2) (by decide) rfl ?_
  refine go_iconst e15_72 (x := 1) rfl ?_
  refine go_iadd e15_73 ?_
  refine go_iastore e15_74 rfl (k := 2) (by decide) (Nat.le_of_ble_eq_true rfl) ?_
  simp only [List.replicate_succ, List.replicate_zero, List.set_cons_zero, List.set_cons_succ, List.length_nil, List.length_cons, Nat.zero_add, Nat.reduceAdd, List.nil_append, List.cons_append]
  refine go_iinc_5 e15_75 (z := 1) rfl ?_
  refine go_goto e15_78 (tg := 51) (by decide) ?_
  refine go_iload e15_51 rfl ?_
  refine go_iload e15_53 rfl ?_
  refine go_icgeN e15_55 (tg := 81) (by decide) (by decide) ?_
  refine go_aloadN e15_58 rfl rfl ?_
  refine go_iload e15_59 rfl ?_
  refine go_iaload e15_61 rfl (k := 1) (by decide) rfl ?_
  refine go_istore_6 e15_62 rfl ?_
  refine go_aloadN e15_64 rfl rfl ?_
  refine go_getfield e15_65 (wd 106 rfl) rfl (j := 3) rfl ?_
  refine go_iload e15_68 rfl ?_
  refine go_dup2 e15_70 rfl rfl ?_
  refine go_iaload e15_71 rfl (k := 2) (by decide) rfl ?_
  refine go_iconst e15_72 (x := 1) rfl ?_
  refine go_iadd e15_73 ?_
  refine go_iastore e15_74 rfl (k := 2) (by decide) (Nat.le_of_ble_eq_true rfl) ?_
  simp only [List.replicate_succ, List.replicate_zero, List.set_cons_zero, List.set_cons_succ, List.length_nil, List.length_cons, Nat.zero_add, Nat.reduceAdd, List.nil_append, List.cons_append]
  refine go_iinc_5 e15_75 (z := 1) rfl ?_
  refine go_goto e15_78 (tg := 51) (by decide) ?_
  refine go_iload e15_51 rfl ?_
  refine go_iload e15_53 rfl ?_
  refine go_icgeN e15_55 (tg := 81) (by decide) (by decide) ?_
  refine go_aloadN e15_58 rfl rfl ?_
  refine go_iload e15_59 rfl ?_
  refine go_iaload e15_61 rfl (k := 2) (by decide) rfl ?_
  refine go_istore_6 e15_62 rfl ?_
  refine go_aloadN e15_64 rfl rfl ?_
  refine go_getfield e15_65 (wd 106 rfl) rfl (j := 3) rfl ?_
  refine go_iload e15_68 rfl ?_
  refine go_dup2 e15_70 rfl rfl ?_
  refine go_iaload e15_71 rfl (k := 2) (by decide) rfl ?_
  refine go_iconst e15_72 (x := 1) rfl ?_
  refine go_iadd e15_73 ?_
  refine go_iastore e15_74 rfl (k := 2) (by decide) (Nat.le_of_ble_eq_true rfl) ?_
  simp only [List.replicate_succ, List.replicate_zero, List.set_cons_zero, List.set_cons_succ, List.length_nil, List.length_cons, Nat.zero_add, Nat.reduceAdd, List.nil_append, List.cons_append]
  refine go_iinc_5 e15_75 (z := 1) rfl ?_
  refine go_goto e15_78 (tg := 51) (by decide) ?_
  refine go_iload e15_51 rfl ?_
  refine go_iload e15_53 rfl ?_
  refine go_icgeY e15_55 (tg := 81) (by decide) (by decide) ?_
  refine go_lconst e15_81 (x := 1) rfl ?_
  refine go_lstore_3 e15_82 (Or.inl rfl) rfl ?_
  refine go_iconst e15_83 (x := 1) rfl ?_
  refine go_istore_5 e15_84 rfl ?_
  refine go_iload e15_86 rfl ?_
  refine go_bipush e15_88 (x := 20) rfl ?_
  refine go_icgtN e15_90 (tg := 137) (by decide) (by decide) ?_
  refine go_lloadN e15_93 rfl ?_
  refine go_ldc2 e15_94 (wd 110 rfl) ?_
  refine go_lmul e15_97 ?_
  refine go_aloadN e15_98 rfl rfl ?_
  refine go_getfield e15_99 (wd 106 rfl) rfl (j := 3) rfl ?_
  refine go_iload e15_102 rfl ?_
  refine go_iaload e15_104 rfl (k := 1) (by decide) rfl ?_
  refine go_i2l e15_105 ?_
  refine go_lsub e15_106 ?_
  refine go_lstoreX_3 e15_107 (Or.inr ⟨_, rfl⟩) rfl ?_
  intro lf hlf
  obtain rfl : lf = (2 : Int64) := by rw [hlf]; decide
  refine go_lloadN e15_108 rfl ?_
  refine go_lconst e15_109 (x := 0) rfl ?_
  refine go_lcge e15_110 e15_111 (tg := 131) (by decide) ?_ ?_
  · intro c111
    refine go_iinc_5 e15_131 (z := 1) rfl ?_
    refine go_goto e15_134 (tg := 86) (by decide) ?_
    refine go_iload e15_86 rfl ?_
    refine go_bipush e15_88 (x := 20) rfl ?_
    refine go_icgtN e15_90 (tg := 137) (by decide) (by decide) ?_
    refine go_lloadN e15_93 rfl ?_
    refine go_ldc2 e15_94 (wd 110 rfl) ?_
    refine go_lmul e15_97 ?_
    refine go_aloadN e15_98 rfl rfl ?_
    refine go_getfield e15_99 (wd 106 rfl) rfl (j := 3) rfl ?_
    refine go_iload e15_102 rfl ?_
    refine go_iaload e15_104 rfl (k := 2) (by decide) rfl ?_
    refine go_i2l e15_105 ?_
    refine go_lsub e15_106 ?_
    refine go_lstoreX_3 e15_107 (Or.inr ⟨_, rfl⟩) rfl ?_
    intro lf hlf
    obtain rfl : lf = (1 : Int64) := by rw [hlf]; decide
    refine go_lloadN e15_108 rfl ?_
    refine go_lconst e15_109 (x := 0) rfl ?_
    refine go_lcge e15_110 e15_111 (tg := 131) (by decide) ?_ ?_
    · intro c111
      refine go_iinc_5 e15_131 (z := 1) rfl ?_
      refine go_goto e15_134 (tg := 86) (by decide) ?_
      refine go_iload e15_86 rfl ?_
      refine go_bipush e15_88 (x := 20) rfl ?_
      refine go_icgtN e15_90 (tg := 137) (by decide) (by decide) ?_
      refine go_lloadN e15_93 rfl ?_
      refine go_ldc2 e15_94 (wd 110 rfl) ?_
      refine go_lmul e15_97 ?_
      refine go_aloadN e15_98 rfl rfl ?_
      refine go_getfield e15_99 (wd 106 rfl) rfl (j := 3) rfl ?_
      refine go_iload e15_102 rfl ?_
      refine go_iaload e15_104 rfl (k := 3) (by decide) rfl ?_
      refine go_i2l e15_105 ?_
      refine go_lsub e15_106 ?_
      refine go_lstoreX_3 e15_107 (Or.inr ⟨_, rfl⟩) rfl ?_
      intro lf hlf
      obtain rfl : lf = (2 : Int64) := by rw [hlf]; decide
      refine go_lloadN e15_108 rfl ?_
      refine go_lconst e15_109 (x := 0) rfl ?_
      refine go_lcge e15_110 e15_111 (tg := 131) (by decide) ?_ ?_
      · intro c111
        refine go_iinc_5 e15_131 (z := 1) rfl ?_
        refine go_goto e15_134 (tg := 86) (by decide) ?_
        refine go_iload e15_86 rfl ?_
        refine go_bipush e15_88 (x := 20) rfl ?_
        refine go_icgtN e15_90 (tg := 137) (by decide) (by decide) ?_
        refine go_lloadN e15_93 rfl ?_
        refine go_ldc2 e15_94 (wd 110 rfl) ?_
        refine go_lmul e15_97 ?_
        refine go_aloadN e15_98 rfl rfl ?_
        refine go_getfield e15_99 (wd 106 rfl) rfl (j := 3) rfl ?_
        refine go_iload e15_102 rfl ?_
        refine go_iaload e15_104 rfl (k := 4) (by decide) rfl ?_
        refine go_i2l e15_105 ?_
        refine go_lsub e15_106 ?_
        refine go_lstoreX_3 e15_107 (Or.inr ⟨_, rfl⟩) rfl ?_
        intro lf hlf
        obtain rfl : lf = (4 : Int64) := by rw [hlf]; decide
        refine go_lloadN e15_108 rfl ?_
        refine go_lconst e15_109 (x := 0) rfl ?_
        refine go_lcge e15_110 e15_111 (tg := 131) (by decide) ?_ ?_
        · intro c111
          refine go_iinc_5 e15_131 (z := 1) rfl ?_
          refine go_goto e15_134 (tg := 86) (by decide) ?_
          refine go_iload e15_86 rfl ?_
          refine go_bipush e15_88 (x := 20) rfl ?_
          refine go_icgtN e15_90 (tg := 137) (by decide) (by decide) ?_
          refine go_lloadN e15_93 rfl ?_
          refine go_ldc2 e15_94 (wd 110 rfl) ?_
          refine go_lmul e15_97 ?_
          refine go_aloadN e15_98 rfl rfl ?_
          refine go_getfield e15_99 (wd 106 rfl) rfl (j := 3) rfl ?_
          refine go_iload e15_102 rfl ?_
          refine go_iaload e15_104 rfl (k := 5) (by decide) rfl ?_
          refine go_i2l e15_105 ?_
          refine go_lsub e15_106 ?_
          refine go_lstoreX_3 e15_107 (Or.inr ⟨_, rfl⟩) rfl ?_
          intro lf hlf
          obtain rfl : lf = (8 : Int64) := by rw [hlf]; decide
          refine go_lloadN e15_108 rfl ?_
          refine go_lconst e15_109 (x := 0) rfl ?_
          refine go_lcge e15_110 e15_111 (tg := 131) (by decide) ?_ ?_
          · intro c111
            refine go_iinc_5 e15_131 (z := 1) rfl ?_
            refine go_goto e15_134 (tg := 86) (by decide) ?_
            refine go_iload e15_86 rfl ?_
            refine go_bipush e15_88 (x := 20) rfl ?_
            refine go_icgtN e15_90 (tg := 137) (by decide) (by decide) ?_
            refine go_lloadN e15_93 rfl ?_
            refine go_ldc2 e15_94 (wd 110 rfl) ?_
            refine go_lmul e15_97 ?_
            refine go_aloadN e15_98 rfl rfl ?_
            refine go_getfield e15_99 (wd 106 rfl) rfl (j := 3) rfl ?_
            refine go_iload e15_102 rfl ?_
            refine go_iaload e15_104 rfl (k := 6) (by decide) rfl ?_
            refine go_i2l e15_105 ?_
            refine go_lsub e15_106 ?_
            refine go_lstoreX_3 e15_107 (Or.inr ⟨_, rfl⟩) rfl ?_
            intro lf hlf
            obtain rfl : lf = (16 : Int64) := by rw [hlf]; decide
            refine go_lloadN e15_108 rfl ?_
            refine go_lconst e15_109 (x := 0) rfl ?_
            refine go_lcge e15_110 e15_111 (tg := 131) (by decide) ?_ ?_
            · intro c111
              refine go_iinc_5 e15_131 (z := 1) rfl ?_
              refine go_goto e15_134 (tg := 86) (by decide) ?_
              refine go_iload e15_86 rfl ?_
              refine go_bipush e15_88 (x := 20) rfl ?_
              refine go_icgtN e15_90 (tg := 137) (by decide) (by decide) ?_
              refine go_lloadN e15_93 rfl ?_
              refine go_ldc2 e15_94 (wd 110 rfl) ?_
              refine go_lmul e15_97 ?_
              refine go_aloadN e15_98 rfl rfl ?_
              refine go_getfield e15_99 (wd 106 rfl) rfl (j := 3) rfl ?_
              refine go_iload e15_102 rfl ?_
              refine go_iaload e15_104 rfl (k := 7) (by decide) rfl ?_
              refine go_i2l e15_105 ?_
              refine go_lsub e15_106 ?_
              refine go_lstoreX_3 e15_107 (Or.inr ⟨_, rfl⟩) rfl ?_
              intro lf hlf
              obtain rfl : lf = (32 : Int64) := by rw [hlf]; decide
              refine go_lloadN e15_108 rfl ?_
              refine go_lconst e15_109 (x := 0) rfl ?_
              refine go_lcge e15_110 e15_111 (tg := 131) (by decide) ?_ ?_
              · intro c111
                refine go_iinc_5 e15_131 (z := 1) rfl ?_
                refine go_goto e15_134 (tg := 86) (by decide) ?_
                refine go_iload e15_86 rfl ?_
                refine go_bipush e15_88 (x := 20) rfl ?_
                refine go_icgtN e15_90 (tg := 137) (by decide) (by decide) ?_
                refine go_lloadN e15_93 rfl ?_
                refine go_ldc2 e15_94 (wd 110 rfl) ?_
                refine go_lmul e15_97 ?_
                refine go_aloadN e15_98 rfl rfl ?_
                refine go_getfield e15_99 (wd 106 rfl) rfl (j := 3) rfl ?_
                refine go_iload e15_102 rfl ?_
                refine go_iaload e15_104 rfl (k := 8) (by decide) rfl ?_
                refine go_i2l e15_105 ?_
                refine go_lsub e15_106 ?_
                refine go_lstoreX_3 e15_107 (Or.inr ⟨_, rfl⟩) rfl ?_
                intro lf hlf
                obtain rfl : lf = (64 : Int64) := by rw [hlf]; decide
                refine go_lloadN e15_108 rfl ?_
                refine go_lconst e15_109 (x := 0) rfl ?_
                refine go_lcge e15_110 e15_111 (tg := 131) (by decide) ?_ ?_
                · intro c111
                  refine go_iinc_5 e15_131 (z := 1) rfl ?_
                  refine go_goto e15_134 (tg := 86) (by decide) ?_
                  refine go_iload e15_86 rfl ?_
                  refine go_bipush e15_88 (x := 20) rfl ?_
                  refine go_icgtN e15_90 (tg := 137) (by decide) (by decide) ?_
                  refine go_lloadN e15_93 rfl ?_
                  refine go_ldc2 e15_94 (wd 110 rfl) ?_
                  refine go_lmul e15_97 ?_
                  refine go_aloadN e15_98 rfl rfl ?_
                  refine go_getfield e15_99 (wd 106 rfl) rfl (j := 3) rfl ?_
                  refine go_iload e15_102 rfl ?_
                  refine go_iaload e15_104 rfl (k := 9) (by decide) rfl ?_
                  refine go_i2l e15_105 ?_
                  refine go_lsub e15_106 ?_
                  refine go_lstoreX_3 e15_107 (Or.inr ⟨_, rfl⟩) rfl ?_
                  intro lf hlf
                  obtain rfl : lf = (128 : Int64) := by rw [hlf]; decide
                  refine go_lloadN e15_108 rfl ?_
                  refine go_lconst e15_109 (x := 0) rfl ?_
                  refine go_lcge e15_110 e15_111 (tg := 131) (by decide) ?_ ?_
                  · intro c111
                    refine go_iinc_5 e15_131 (z := 1) rfl ?_
                    refine go_goto e15_134 (tg := 86) (by decide) ?_
                    refine go_iload e15_86 rfl ?_
                    refine go_bipush e15_88 (x := 20) rfl ?_
                    refine go_icgtN e15_90 (tg := 137) (by decide) (by decide) ?_
                    refine go_lloadN e15_93 rfl ?_
                    refine go_ldc2 e15_94 (wd 110 rfl) ?_
                    refine go_lmul e15_97 ?_
                    refine go_aloadN e15_98 rfl rfl ?_
                    refine go_getfield e15_99 (wd 106 rfl) rfl (j := 3) rfl ?_
                    refine go_iload e15_102 rfl ?_
                    refine go_iaload e15_104 rfl (k := 10) (by decide) rfl ?_
                    refine go_i2l e15_105 ?_
                    refine go_lsub e15_106 ?_
                    refine go_lstoreX_3 e15_107 (Or.inr ⟨_, rfl⟩) rfl ?_
                    intro lf hlf
                    obtain rfl : lf = (256 : Int64) := by rw [hlf]; decide
                    refine go_lloadN e15_108 rfl ?_
                    refine go_lconst e15_109 (x := 0) rfl ?_
                    refine go_lcge e15_110 e15_111 (tg := 131) (by decide) ?_ ?_
                    · intro c111
                      refine go_iinc_5 e15_131 (z := 1) rfl ?_
                      refine go_goto e15_134 (tg := 86) (by decide) ?_
                      refine go_iload e15_86 rfl ?_
                      refine go_bipush e15_88 (x := 20) rfl ?_
                      refine go_icgtN e15_90 (tg := 137) (by decide) (by decide) ?_
                      refine go_lloadN e15_93 rfl ?_
                      refine go_ldc2 e15_94 (wd 110 rfl) ?_
                      refine go_lmul e15_97 ?_
                      refine go_aloadN e15_98 rfl rfl ?_
                      refine go_getfield e15_99 (wd 106 rfl) rfl (j := 3) rfl ?_
                      refine go_iload e15_102 rfl ?_
                      refine go_iaload e15_104 rfl (k := 11) (by decide) rfl ?_
                      refine go_i2l e15_105 ?_
                      refine go_lsub e15_106 ?_
                      refine go_lstoreX_3 e15_107 (Or.inr ⟨_, rfl⟩) rfl ?_
                      intro lf hlf
                      obtain rfl : lf = (512 : Int64) := by rw [hlf]; decide
                      refine go_lloadN e15_108 rfl ?_
                      refine go_lconst e15_109 (x := 0) rfl ?_
                      refine go_lcge e15_110 e15_111 (tg := 131) (by decide) ?_ ?_
                      · intro c111
                        refine go_iinc_5 e15_131 (z := 1) rfl ?_
                        refine go_goto e15_134 (tg := 86) (by decide) ?_
                        refine go_iload e15_86 rfl ?_
                        refine go_bipush e15_88 (x := 20) rfl ?_
                        refine go_icgtN e15_90 (tg := 137) (by decide) (by decide) ?_
                        refine go_lloadN e15_93 rfl ?_
                        refine go_ldc2 e15_94 (wd 110 rfl) ?_
                        refine go_lmul e15_97 ?_
                        refine go_aloadN e15_98 rfl rfl ?_
                        refine go_getfield e15_99 (wd 106 rfl) rfl (j := 3) rfl ?_
                        refine go_iload e15_102 rfl ?_
                        refine go_iaload e15_104 rfl (k := 12) (by decide) rfl ?_
                        refine go_i2l e15_105 ?_
                        refine go_lsub e15_106 ?_
                        refine go_lstoreX_3 e15_107 (Or.inr ⟨_, rfl⟩) rfl ?_
                        intro lf hlf
                        obtain rfl : lf = (1024 : Int64) := by rw [hlf]; decide
                        refine go_lloadN e15_108 rfl ?_
                        refine go_lconst e15_109 (x := 0) rfl ?_
                        refine go_lcge e15_110 e15_111 (tg := 131) (by decide) ?_ ?_
                        · intro c111
                          refine go_iinc_5 e15_131 (z := 1) rfl ?_
                          refine go_goto e15_134 (tg := 86) (by decide) ?_
                          refine go_iload e15_86 rfl ?_
                          refine go_bipush e15_88 (x := 20) rfl ?_
                          refine go_icgtN e15_90 (tg := 137) (by decide) (by decide) ?_
                          refine go_lloadN e15_93 rfl ?_
                          refine go_ldc2 e15_94 (wd 110 rfl) ?_
                          refine go_lmul e15_97 ?_
                          refine go_aloadN e15_98 rfl rfl ?_
                          refine go_getfield e15_99 (wd 106 rfl) rfl (j := 3) rfl ?_
                          refine go_iload e15_102 rfl ?_
                          refine go_iaload e15_104 rfl (k := 13) (by decide) rfl ?_
                          refine go_i2l e15_105 ?_
                          refine go_lsub e15_106 ?_
                          refine go_lstoreX_3 e15_107 (Or.inr ⟨_, rfl⟩) rfl ?_
                          intro lf hlf
                          obtain rfl : lf = (2048 : Int64) := by rw [hlf]; decide
                          refine go_lloadN e15_108 rfl ?_
                          refine go_lconst e15_109 (x := 0) rfl ?_
                          refine go_lcge e15_110 e15_111 (tg := 131) (by decide) ?_ ?_
                          · intro c111
                            refine go_iinc_5 e15_131 (z := 1) rfl ?_
                            refine go_goto e15_134 (tg := 86) (by decide) ?_
                            refine go_iload e15_86 rfl ?_
                            refine go_bipush e15_88 (x := 20) rfl ?_
                            refine go_icgtN e15_90 (tg := 137) (by decide) (by decide) ?_
                            refine go_lloadN e15_93 rfl ?_
                            refine go_ldc2 e15_94 (wd 110 rfl) ?_
                            refine go_lmul e15_97 ?_
                            refine go_aloadN e15_98 rfl rfl ?_
                            refine go_getfield e15_99 (wd 106 rfl) rfl (j := 3) rfl ?_
                            refine go_iload e15_102 rfl ?_
                            refine go_iaload e15_104 rfl (k := 14) (by decide) rfl ?_
                            refine go_i2l e15_105 ?_
                            refine go_lsub e15_106 ?_
                            refine go_lstoreX_3 e15_107 (Or.inr ⟨_, rfl⟩) rfl ?_
                            intro lf hlf
                            obtain rfl : lf = (4096 : Int64) := by rw [hlf]; decide
                            refine go_lloadN e15_108 rfl ?_
                            refine go_lconst e15_109 (x := 0) rfl ?_
                            refine go_lcge e15_110 e15_111 (tg := 131) (by decide) ?_ ?_
                            · intro c111
                              refine go_iinc_5 e15_131 (z := 1) rfl ?_
                              refine go_goto e15_134 (tg := 86) (by decide) ?_
                              refine go_iload e15_86 rfl ?_
                              refine go_bipush e15_88 (x := 20) rfl ?_
                              refine go_icgtN e15_90 (tg := 137) (by decide) (by decide) ?_
                              refine go_lloadN e15_93 rfl ?_
                              refine go_ldc2 e15_94 (wd 110 rfl) ?_
                              refine go_lmul e15_97 ?_
                              refine go_aloadN e15_98 rfl rfl ?_
                              refine go_getfield e15_99 (wd 106 rfl) rfl (j := 3) rfl ?_
                              refine go_iload e15_102 rfl ?_
                              refine go_iaload e15_104 rfl (k := 15) (by decide) rfl ?_
                              refine go_i2l e15_105 ?_
                              refine go_lsub e15_106 ?_
                              refine go_lstoreX_3 e15_107 (Or.inr ⟨_, rfl⟩) rfl ?_
                              intro lf hlf
                              obtain rfl : lf = (8192 : Int64) := by rw [hlf]; decide
                              refine go_lloadN e15_108 rfl ?_
                              refine go_lconst e15_109 (x := 0) rfl ?_
                              refine go_lcge e15_110 e15_111 (tg := 131) (by decide) ?_ ?_
                              · intro c111
                                refine go_iinc_5 e15_131 (z := 1) rfl ?_
                                refine go_goto e15_134 (tg := 86) (by decide) ?_
                                refine go_iload e15_86 rfl ?_
                                refine go_bipush e15_88 (x := 20) rfl ?_
                                refine go_icgtN e15_90 (tg := 137) (by decide) (by decide) ?_
                                refine go_lloadN e15_93 rfl ?_
                                refine go_ldc2 e15_94 (wd 110 rfl) ?_
                                refine go_lmul e15_97 ?_
                                refine go_aloadN e15_98 rfl rfl ?_
                                refine go_getfield e15_99 (wd 106 rfl) rfl (j := 3) rfl ?_
                                refine go_iload e15_102 rfl ?_
                                refine go_iaload e15_104 rfl (k := 16) (by decide) rfl ?_
                                refine go_i2l e15_105 ?_
                                refine go_lsub e15_106 ?_
                                refine go_lstoreX_3 e15_107 (Or.inr ⟨_, rfl⟩) rfl ?_
                                intro lf hlf
                                obtain rfl : lf = (16384 : Int64) := by rw [hlf]; decide
                                refine go_lloadN e15_108 rfl ?_
                                refine go_lconst e15_109 (x := 0) rfl ?_
                                refine go_lcge e15_110 e15_111 (tg := 131) (by decide) ?_ ?_
                                · intro c111
                                  refine go_iinc_5 e15_131 (z := 1) rfl ?_
                                  refine go_goto e15_134 (tg := 86) (by decide) ?_
                                  refine go_iload e15_86 rfl ?_
                                  refine go_bipush e15_88 (x := 20) rfl ?_
                                  refine go_icgtN e15_90 (tg := 137) (by decide) (by decide) ?_
                                  refine go_lloadN e15_93 rfl ?_
                                  refine go_ldc2 e15_94 (wd 110 rfl) ?_
                                  refine go_lmul e15_97 ?_
                                  refine go_aloadN e15_98 rfl rfl ?_
                                  refine go_getfield e15_99 (wd 106 rfl) rfl (j := 3) rfl ?_
                                  refine go_iload e15_102 rfl ?_
                                  refine go_iaload e15_104 rfl (k := 17) (by decide) rfl ?_
                                  refine go_i2l e15_105 ?_
                                  refine go_lsub e15_106 ?_
                                  refine go_lstoreX_3 e15_107 (Or.inr ⟨_, rfl⟩) rfl ?_
                                  intro lf hlf
                                  obtain rfl : lf = (32768 : Int64) := by rw [hlf]; decide
                                  refine go_lloadN e15_108 rfl ?_
                                  refine go_lconst e15_109 (x := 0) rfl ?_
                                  refine go_lcge e15_110 e15_111 (tg := 131) (by decide) ?_ ?_
                                  · intro c111
                                    refine go_iinc_5 e15_131 (z := 1) rfl ?_
                                    refine go_goto e15_134 (tg := 86) (by decide) ?_
                                    refine go_iload e15_86 rfl ?_
                                    refine go_bipush e15_88 (x := 20) rfl ?_
                                    refine go_icgtN e15_90 (tg := 137) (by decide) (by decide) ?_
                                    refine go_lloadN e15_93 rfl ?_
                                    refine go_ldc2 e15_94 (wd 110 rfl) ?_
                                    refine go_lmul e15_97 ?_
                                    refine go_aloadN e15_98 rfl rfl ?_
                                    refine go_getfield e15_99 (wd 106 rfl) rfl (j := 3) rfl ?_
                                    refine go_iload e15_102 rfl ?_
                                    refine go_iaload e15_104 rfl (k := 18) (by decide) rfl ?_
                                    refine go_i2l e15_105 ?_
                                    refine go_lsub e15_106 ?_
                                    refine go_lstoreX_3 e15_107 (Or.inr ⟨_, rfl⟩) rfl ?_
                                    intro lf hlf
                                    obtain rfl : lf = (65536 : Int64) := by rw [hlf]; decide
                                    refine go_lloadN e15_108 rfl ?_
                                    refine go_lconst e15_109 (x := 0) rfl ?_
                                    refine go_lcge e15_110 e15_111 (tg := 131) (by decide) ?_ ?_
                                    · intro c111
                                      refine go_iinc_5 e15_131 (z := 1) rfl ?_
                                      refine go_goto e15_134 (tg := 86) (by decide) ?_
                                      refine go_iload e15_86 rfl ?_
                                      refine go_bipush e15_88 (x := 20) rfl ?_
                                      refine go_icgtN e15_90 (tg := 137) (by decide) (by decide) ?_
                                      refine go_lloadN e15_93 rfl ?_
                                      refine go_ldc2 e15_94 (wd 110 rfl) ?_
                                      refine go_lmul e15_97 ?_
                                      refine go_aloadN e15_98 rfl rfl ?_
                                      refine go_getfield e15_99 (wd 106 rfl) rfl (j := 3) rfl ?_
                                      refine go_iload e15_102 rfl ?_
                                      refine go_iaload e15_104 rfl (k := 19) (by decide) rfl ?_
                                      refine go_i2l e15_105 ?_
                                      refine go_lsub e15_106 ?_
                                      refine go_lstoreX_3 e15_107 (Or.inr ⟨_, rfl⟩) rfl ?_
                                      intro lf hlf
                                      obtain rfl : lf = (131072 : Int64) := by rw [hlf]; decide
                                      refine go_lloadN e15_108 rfl ?_
                                      refine go_lconst e15_109 (x := 0) rfl ?_
                                      refine go_lcge e15_110 e15_111 (tg := 131) (by decide) ?_ ?_
                                      · intro c111
                                        refine go_iinc_5 e15_131 (z := 1) rfl ?_
                                        refine go_goto e15_134 (tg := 86) (by decide) ?_
                                        refine go_iload e15_86 rfl ?_
                                        refine go_bipush e15_88 (x := 20) rfl ?_
                                        refine go_icgtN e15_90 (tg := 137) (by decide) (by decide) ?_
                                        refine go_lloadN e15_93 rfl ?_
                                        refine go_ldc2 e15_94 (wd 110 rfl) ?_
                                        refine go_lmul e15_97 ?_
                                        refine go_aloadN e15_98 rfl rfl ?_
                                        refine go_getfield e15_99 (wd 106 rfl) rfl (j := 3) rfl ?_
                                        refine go_iload e15_102 rfl ?_
                                        refine go_iaload e15_104 rfl (k := 20) (by decide) rfl ?_
                                        refine go_i2l e15_105 ?_
                                        refine go_lsub e15_106 ?_
                                        refine go_lstoreX_3 e15_107 (Or.inr ⟨_, rfl⟩) rfl ?_
                                        intro lf hlf
                                        obtain rfl : lf = (262144 : Int64) := by rw [hlf]; decide
                                        refine go_lloadN e15_108 rfl ?_
                                        refine go_lconst e15_109 (x := 0) rfl ?_
                                        refine go_lcge e15_110 e15_111 (tg := 131) (by decide) ?_ ?_
                                        · intro c111
                                          refine go_iinc_5 e15_131 (z := 1) rfl ?_
                                          refine go_goto e15_134 (tg := 86) (by decide) ?_
                                          refine go_iload e15_86 rfl ?_
                                          refine go_bipush e15_88 (x := 20) rfl ?_
                                          refine go_icgtY e15_90 (tg := 137) (by decide) (by decide) ?_
                                          refine go_iconst e15_137 (x := 0) rfl ?_
                                          refine go_istore_5 e15_138 rfl ?_
                                          refine go_iconst e15_140 (x := 0) rfl ?_
                                          refine go_istore_6 e15_141 rfl ?_
                                          refine go_iconst e15_143 (x := 1) rfl ?_
                                          refine go_istore_7 e15_144 rfl ?_
                                          refine go_iload e15_146 rfl ?_
                                          refine go_bipush e15_148 (x := 20) rfl ?_
                                          refine go_icgtN e15_150 (tg := 205) (by decide) (by decide) ?_
                                          refine go_iload e15_153 rfl ?_
                                          refine go_aloadN e15_155 rfl rfl ?_
                                          refine go_getfield e15_156 (wd 106 rfl) rfl (j := 3) rfl ?_
                                          refine go_iload e15_159 rfl ?_
                                          refine go_iconst e15_161 (x := 1) rfl ?_
                                          refine go_isub e15_162 ?_
                                          refine go_iaload e15_163 rfl (k := 0) (by decide) rfl ?_
                                          refine go_iadd e15_164 ?_
                                          refine go_iconst e15_165 (x := 1) rfl ?_
                                          refine go_ishl e15_166 ?_
                                          refine go_istoreX_5 e15_167 rfl ?_
                                          intro cd hcd
                                          obtain rfl : cd = (0 : Int32) := by rw [hcd]; decide
                                          refine go_aloadN e15_169 rfl rfl ?_
                                          refine go_getfield e15_170 (wd 104 rfl) rfl (j := 2) rfl ?_
                                          refine go_iload e15_173 rfl ?_
                                          refine go_iload e15_175 rfl ?_
                                          refine go_iastore e15_177 rfl (k := 1) (by decide) (Nat.le_of_ble_eq_true rfl) ?_
                                          simp only [List.replicate_succ, List.replicate_zero, List.set_cons_zero, List.set_cons_succ, List.length_nil, List.length_cons, Nat.zero_add, Nat.reduceAdd, List.nil_append, List.cons_append]
                                          refine go_aloadN e15_178 rfl rfl ?_
                                          refine go_getfield e15_179 (wd 108 rfl) rfl (j := 4) rfl ?_
                                          refine go_iload e15_182 rfl ?_
                                          refine go_iload e15_184 rfl ?_
                                          refine go_iastore e15_186 rfl (k := 1) (by decide) (Nat.le_of_ble_eq_true rfl) ?_
                                          simp only [List.replicate_succ, List.replicate_zero, List.set_cons_zero, List.set_cons_succ, List.length_nil, List.length_cons, Nat.zero_add, Nat.reduceAdd, List.nil_append, List.cons_append]
                                          refine go_iload e15_187 rfl ?_
                                          refine go_aloadN e15_189 rfl rfl ?_
                                          refine go_getfield e15_190 (wd 106 rfl) rfl (j := 3) rfl ?_
                                          refine go_iload e15_193 rfl ?_
                                          refine go_iaload e15_195 rfl (k := 1) (by decide) rfl ?_
                                          refine go_iadd e15_196 ?_
                                          refine go_istoreX_6 e15_197 rfl ?_
                                          intro ix hix
                                          obtain rfl : ix = (0 : Int32) := by rw [hix]; decide
                                          refine go_iinc_7 e15_199 (z := 1) rfl ?_
                                          refine go_goto e15_202 (tg := 146) (by decide) ?_
                                          refine go_iload e15_146 rfl ?_
                                          refine go_bipush e15_148 (x := 20) rfl ?_
                                          refine go_icgtN e15_150 (tg := 205) (by decide) (by decide) ?_
                                          refine go_iload e15_153 rfl ?_
                                          refine go_aloadN e15_155 rfl rfl ?_
                                          refine go_getfield e15_156 (wd 106 rfl) rfl (j := 3) rfl ?_
                                          refine go_iload e15_159 rfl ?_
                                          refine go_iconst e15_161 (x := 1) rfl ?_
                                          refine go_isub e15_162 ?_
                                          refine go_iaload e15_163 rfl (k := 1) (by decide) rfl ?_
                                          refine go_iadd e15_164 ?_
                                          refine go_iconst e15_165 (x := 1) rfl ?_
                                          refine go_ishl e15_166 ?_
                                          refine go_istoreX_5 e15_167 rfl ?_
                                          intro cd hcd
                                          obtain rfl : cd = (0 : Int32) := by rw [hcd]; decide
                                          refine go_aloadN e15_169 rfl rfl ?_
                                          refine go_getfield e15_170 (wd 104 rfl) rfl (j := 2) rfl ?_
                                          refine go_iload e15_173 rfl ?_
                                          refine go_iload e15_175 rfl ?_
                                          refine go_iastore e15_177 rfl (k := 2) (by decide) (Nat.le_of_ble_eq_true rfl) ?_
                                          simp only [List.replicate_succ, List.replicate_zero, List.set_cons_zero, List.set_cons_succ, List.length_nil, List.length_cons, Nat.zero_add, Nat.reduceAdd, List.nil_append, List.cons_append]
                                          refine go_aloadN e15_178 rfl rfl ?_
                                          refine go_getfield e15_179 (wd 108 rfl) rfl (j := 4) rfl ?_
                                          refine go_iload e15_182 rfl ?_
                                          refine go_iload e15_184 rfl ?_
                                          refine go_iastore e15_186 rfl (k := 2) (by decide) (Nat.le_of_ble_eq_true rfl) ?_
                                          simp only [List.replicate_succ, List.replicate_zero, List.set_cons_zero, List.set_cons_succ, List.length_nil, List.length_cons, Nat.zero_add, Nat.reduceAdd, List.nil_append, List.cons_append]
                                          refine go_iload e15_187 rfl ?_
                                          refine go_aloadN e15_189 rfl rfl ?_
                                          refine go_getfield e15_190 (wd 106 rfl) rfl (j := 3) rfl ?_
                                          refine go_iload e15_193 rfl ?_
                                          refine go_iaload e15_195 rfl (k := 2) (by decide) rfl ?_
                                          refine go_iadd e15_196 ?_
                                          refine go_istoreX_6 e15_197 rfl ?_
                                          intro ix hix
                                          obtain rfl : ix = (3 : Int32) := by rw [hix]; decide
                                          refine go_iinc_7 e15_199 (z := 1) rfl ?_
                                          refine go_goto e15_202 (tg := 146) (by decide) ?_
                                          refine go_iload e15_146 rfl ?_
                                          refine go_bipush e15_148 (x := 20) rfl ?_
                                          refine go_icgtN e15_150 (tg := 205) (by decide) (by decide) ?_
                                          refine go_iload e15_153 rfl ?_
                                          refine go_aloadN e15_155 rfl rfl ?_
                                          refine go_getfield e15_156 (wd 106 rfl) rfl (j := 3) rfl ?_
                                          refine go_iload e15_159 rfl ?_
                                          refine go_iconst e15_161 (x := 1) rfl ?_
                                          refine go_isub e15_162 ?_
                                          refine go_iaload e15_163 rfl (k := 2) (by decide) rfl ?_
                                          refine go_iadd e15_164 ?_
                                          refine go_iconst e15_165 (x := 1) rfl ?_
                                          refine go_ishl e15_166 ?_
                                          refine go_istoreX_5 e15_167 rfl ?_
                                          intro cd hcd
                                          obtain rfl : cd = (6 : Int32) := by rw [hcd]; decide
                                          refine go_aloadN e15_169 rfl rfl ?_
                                          refine go_getfield e15_170 (wd 104 rfl) rfl (j := 2) rfl ?_
                                          refine go_iload e15_173 rfl ?_
                                          refine go_iload e15_175 rfl ?_
                                          refine go_iastore e15_177 rfl (k := 3) (by decide) (Nat.le_of_ble_eq_true rfl) ?_
                                          simp only [List.replicate_succ, List.replicate_zero, List.set_cons_zero, List.set_cons_succ, List.length_nil, List.length_cons, Nat.zero_add, Nat.reduceAdd, List.nil_append, List.cons_append]
                                          refine go_aloadN e15_178 rfl rfl ?_
                                          refine go_getfield e15_179 (wd 108 rfl) rfl (j := 4) rfl ?_
                                          refine go_iload e15_182 rfl ?_
                                          refine go_iload e15_184 rfl ?_
                                          refine go_iastore e15_186 rfl (k := 3) (by decide) (Nat.le_of_ble_eq_true rfl) ?_
                                          simp only [List.replicate_succ, List.replicate_zero, List.set_cons_zero, List.set_cons_succ, List.length_nil, List.length_cons, Nat.zero_add, Nat.reduceAdd, List.nil_append, List.cons_append]
                                          refine go_iload e15_187 rfl ?_
                                          refine go_aloadN e15_189 rfl rfl ?_
                                          refine go_getfield e15_190 (wd 106 rfl) rfl (j := 3) rfl ?_
                                          refine go_iload e15_193 rfl ?_
                                          refine go_iaload e15_195 rfl (k := 3) (by decide) rfl ?_
                                          refine go_iadd e15_196 ?_
                                          refine go_istoreX_6 e15_197 rfl ?_
                                          intro ix hix
                                          obtain rfl : ix = (3 : Int32) := by rw [hix]; decide
                                          refine go_iinc_7 e15_199 (z := 1) rfl ?_
                                          refine go_goto e15_202 (tg := 146) (by decide) ?_
                                          refine go_iload e15_146 rfl ?_
                                          refine go_bipush e15_148 (x := 20) rfl ?_
                                          refine go_icgtN e15_150 (tg := 205) (by decide) (by decide) ?_
                                          refine go_iload e15_153 rfl ?_
                                          refine go_aloadN e15_155 rfl rfl ?_
                                          refine go_getfield e15_156 (wd 106 rfl) rfl (j := 3) rfl ?_
                                          refine go_iload e15_159 rfl ?_
                                          refine go_iconst e15_161 (x := 1) rfl ?_
                                          refine go_isub e15_162 ?_
                                          refine go_iaload e15_163 rfl (k := 3) (by decide) rfl ?_
                                          refine go_iadd e15_164 ?_
                                          refine go_iconst e15_165 (x := 1) rfl ?_
                                          refine go_ishl e15_166 ?_
                                          refine go_istoreX_5 e15_167 rfl ?_
                                          intro cd hcd
                                          obtain rfl : cd = (12 : Int32) := by rw [hcd]; decide
                                          refine go_aloadN e15_169 rfl rfl ?_
                                          refine go_getfield e15_170 (wd 104 rfl) rfl (j := 2) rfl ?_
                                          refine go_iload e15_173 rfl ?_
                                          refine go_iload e15_175 rfl ?_
                                          refine go_iastore e15_177 rfl (k := 4) (by decide) (Nat.le_of_ble_eq_true rfl) ?_
                                          simp only [List.replicate_succ, List.replicate_zero, List.set_cons_zero, List.set_cons_succ, List.length_nil, List.length_cons, Nat.zero_add, Nat.reduceAdd, List.nil_append, List.cons_append]
                                          refine go_aloadN e15_178 rfl rfl ?_
                                          refine go_getfield e15_179 (wd 108 rfl) rfl (j := 4) rfl ?_
                                          refine go_iload e15_182 rfl ?_
                                          refine go_iload e15_184 rfl ?_
                                          refine go_iastore e15_186 rfl (k := 4) (by decide) (Nat.le_of_ble_eq_true rfl) ?_
                                          simp only [List.replicate_succ, List.replicate_zero, List.set_cons_zero, List.set_cons_succ, List.length_nil, List.length_cons, Nat.zero_add, Nat.reduceAdd, List.nil_append, List.cons_append]
                                          refine go_iload e15_187 rfl ?_
                                          refine go_aloadN e15_189 rfl rfl ?_
                                          refine go_getfield e15_190 (wd 106 rfl) rfl (j := 3) rfl ?_
                                          refine go_iload e15_193 rfl ?_
                                          refine go_iaload e15_195 rfl (k := 4) (by decide) rfl ?_
                                          refine go_iadd e15_196 ?_
                                          refine go_istoreX_6 e15_197 rfl ?_
                                          intro ix hix
                                          obtain rfl : ix = (3 : Int32) := by rw [hix]; decide
                                          refine go_iinc_7 e15_199 (z := 1) rfl ?_
                                          refine go_goto e15_202 (tg := 146) (by decide) ?_
                                          refine go_iload e15_146 rfl ?_
                                          refine go_bipush e15_148 (x := 20) rfl ?_
                                          refine go_icgtN e15_150 (tg := 205) (by decide) (by decide) ?_
                                          refine go_iload e15_153 rfl ?_
                                          refine go_aloadN e15_155 rfl rfl ?_
                                          refine go_getfield e15_156 (wd 106 rfl) rfl (j := 3) rfl ?_
                                          refine go_iload e15_159 rfl ?_
                                          refine go_iconst e15_161 (x := 1) rfl ?_
                                          refine go_isub e15_162 ?_
                                          refine go_iaload e15_163 rfl (k := 4) (by decide) rfl ?_
                                          refine go_iadd e15_164 ?_
                                          refine go_iconst e15_165 (x := 1) rfl ?_
                                          refine go_ishl e15_166 ?_
                                          refine go_istoreX_5 e15_167 rfl ?_
                                          intro cd hcd
                                          obtain rfl : cd = (24 : Int32) := by rw [hcd]; decide
                                          refine go_aloadN e15_169 rfl rfl ?_
                                          refine go_getfield e15_170 (wd 104 rfl) rfl (j := 2) rfl ?_
                                          refine go_iload e15_173 rfl ?_
                                          refine go_iload e15_175 rfl ?_
                                          refine go_iastore e15_177 rfl (k := 5) (by decide) (Nat.le_of_ble_eq_true rfl) ?_
                                          simp only [List.replicate_succ, List.replicate_zero, List.set_cons_zero, List.set_cons_succ, List.length_nil, List.length_cons, Nat.zero_add, Nat.reduceAdd, List.nil_append, List.cons_append]
                                          refine go_aloadN e15_178 rfl rfl ?_
                                          refine go_getfield e15_179 (wd 108 rfl) rfl (j := 4) rfl ?_
                                          refine go_iload e15_182 rfl ?_
                                          refine go_iload e15_184 rfl ?_
                                          refine go_iastore e15_186 rfl (k := 5) (by decide) (Nat.le_of_ble_eq_true rfl) ?_
                                          simp only [List.replicate_succ, List.replicate_zero, List.set_cons_zero, List.set_cons_succ, List.length_nil, List.length_cons, Nat.zero_add, Nat.reduceAdd, List.nil_append, List.cons_append]
                                          refine go_iload e15_187 rfl ?_
                                          refine go_aloadN e15_189 rfl rfl ?_
                                          refine go_getfield e15_190 (wd 106 rfl) rfl (j := 3) rfl ?_
                                          refine go_iload e15_193 rfl ?_
                                          refine go_iaload e15_195 rfl (k := 5) (by decide) rfl ?_
                                          refine go_iadd e15_196 ?_
                                          refine go_istoreX_6 e15_197 rfl ?_
                                          intro ix hix
                                          obtain rfl : ix = (3 : Int32) := by rw [hix]; decide
                                          refine go_iinc_7 e15_199 (z := 1) rfl ?_
                                          refine go_goto e15_202 (tg := 146) (by decide) ?_
                                          refine go_iload e15_146 rfl ?_
                                          refine go_bipush e15_148 (x := 20) rfl ?_
                                          refine go_icgtN e15_150 (tg := 205) (by decide) (by decide) ?_
                                          refine go_iload e15_153 rfl ?_
                                          refine go_aloadN e15_155 rfl rfl ?_
                                          refine go_getfield e15_156 (wd 106 rfl) rfl (j := 3) rfl ?_
                                          refine go_iload e15_159 rfl ?_
                                          refine go_iconst e15_161 (x := 1) rfl ?_
                                          refine go_isub e15_162 ?_
                                          refine go_iaload e15_163 rfl (k := 5) (by decide) rfl ?_
                                          refine go_iadd e15_164 ?_
                                          refine go_iconst e15_165 (x := 1) rfl ?_
                                          refine go_ishl e15_166 ?_
                                          refine go_istoreX_5 e15_167 rfl ?_
                                          intro cd hcd
                                          obtain rfl : cd = (48 : Int32) := by rw [hcd]; decide
                                          refine go_aloadN e15_169 rfl rfl ?_
                                          refine go_getfield e15_170 (wd 104 rfl) rfl (j := 2) rfl ?_
                                          refine go_iload e15_173 rfl ?_
                                          refine go_iload e15_175 rfl ?_
                                          refine go_iastore e15_177 rfl (k := 6) (by decide) (Nat.le_of_ble_eq_true rfl) ?_
                                          simp only [List.replicate_succ, List.replicate_zero, List.set_cons_zero, List.set_cons_succ, List.length_nil, List.length_cons, Nat.zero_add, Nat.reduceAdd, List.nil_append, List.cons_append]
                                          refine go_aloadN e15_178 rfl rfl ?_
                                          refine go_getfield e15_179 (wd 108 rfl) rfl (j := 4) rfl ?_
                                          refine go_iload e15_182 rfl ?_
                                          refine go_iload e15_184 rfl ?_
                                          refine go_iastore e15_186 rfl (k := 6) (by decide) (Nat.le_of_ble_eq_true rfl) ?_
                                          simp only [List.replicate_succ, List.replicate_zero, List.set_cons_zero, List.set_cons_succ, List.length_nil, List.length_cons, Nat.zero_add, Nat.reduceAdd, List.nil_append, List.cons_append]
                                          refine go_iload e15_187 rfl ?_
                                          refine go_aloadN e15_189 rfl rfl ?_
                                          refine go_getfield e15_190 (wd 106 rfl) rfl (j := 3) rfl ?_
                                          refine go_iload e15_193 rfl ?_
                                          refine go_iaload e15_195 rfl (k := 6) (by decide) rfl ?_
                                          refine go_iadd e15_196 ?_
                                          refine go_istoreX_6 e15_197 rfl ?_
                                          intro ix hix
                                          obtain rfl : ix = (3 : Int32) := by rw [hix]; decide
                                          refine go_iinc_7 e15_199 (z := 1) rfl ?_
                                          refine go_goto e15_202 (tg := 146) (by decide) ?_
                                          refine go_iload e15_146 rfl ?_
                                          refine go_bipush e15_148 (x := 20) rfl ?_
                                          refine go_icgtN e15_150 (tg := 205) (by decide) (by decide) ?_
                                          refine go_iload e15_153 rfl ?_
                                          refine go_aloadN e15_155 rfl rfl ?_
                                          refine go_getfield e15_156 (wd 106 rfl) rfl (j := 3) rfl ?_
                                          refine go_iload e15_159 rfl ?_
                                          refine go_iconst e15_161 (x := 1) rfl ?_
                                          refine go_isub e15_162 ?_
                                          refine go_iaload e15_163 rfl (k := 6) (by decide) rfl ?_
                                          refine go_iadd e15_164 ?_
                                          refine go_iconst e15_165 (x := 1) rfl ?_
                                          refine go_ishl e15_166 ?_
                                          refine go_istoreX_5 e15_167 rfl ?_
                                          intro cd hcd
                                          obtain rfl : cd = (96 : Int32) := by rw [hcd]; decide
                                          refine go_aloadN e15_169 rfl rfl ?_
                                          refine go_getfield e15_170 (wd 104 rfl) rfl (j := 2) rfl ?_
                                          refine go_iload e15_173 rfl ?_
                                          refine go_iload e15_175 rfl ?_
                                          refine go_iastore e15_177 rfl (k := 7) (by decide) (Nat.le_of_ble_eq_true rfl) ?_
                                          simp only [List.replicate_succ, List.replicate_zero, List.set_cons_zero, List.set_cons_succ, List.length_nil, List.length_cons, Nat.zero_add, Nat.reduceAdd, List.nil_append, List.cons_append]
                                          refine go_aloadN e15_178 rfl rfl ?_
                                          refine go_getfield e15_179 (wd 108 rfl) rfl (j := 4) rfl ?_
                                          refine go_iload e15_182 rfl ?_
                                          refine go_iload e15_184 rfl ?_
                                          refine go_iastore e15_186 rfl (k := 7) (by decide) (Nat.le_of_ble_eq_true rfl) ?_
                                          simp only [List.replicate_succ, List.replicate_zero, List.set_cons_zero, List.set_cons_succ, List.length_nil, List.length_cons, Nat.zero_add, Nat.reduceAdd, List.nil_append, List.cons_append]
                                          refine go_iload e15_187 rfl ?_
                                          refine go_aloadN e15_189 rfl rfl ?_
                                          refine go_getfield e15_190 (wd 106 rfl) rfl (j := 3) rfl ?_
                                          refine go_iload e15_193 rfl ?_
                                          refine go_iaload e15_195 rfl (k := 7) (by decide) rfl ?_
                                          refine go_iadd e15_196 ?_
                                          refine go_istoreX_6 e15_197 rfl ?_
                                          intro ix hix
                                          obtain rfl : ix = (3 : Int32) := by rw [hix]; decide
                                          refine go_iinc_7 e15_199 (z := 1) rfl ?_
                                          refine go_goto e15_202 (tg := 146) (by decide) ?_
                                          refine go_iload e15_146 rfl ?_
                                          refine go_bipush e15_148 (x := 20) rfl ?_
                                          refine go_icgtN e15_150 (tg := 205) (by decide) (by decide) ?_
                                          refine go_iload e15_153 rfl ?_
                                          refine go_aloadN e15_155 rfl rfl ?_
                                          refine go_getfield e15_156 (wd 106 rfl) rfl (j := 3) rfl ?_
                                          refine go_iload e15_159 rfl ?_
                                          refine go_iconst e15_161 (x := 1) rfl ?_
                                          refine go_isub e15_162 ?_
                                          refine go_iaload e15_163 rfl (k := 7) (by decide) rfl ?_
                                          refine go_iadd e15_164 ?_
                                          refine go_iconst e15_165 (x := 1) rfl ?_
                                          refine go_ishl e15_166 ?_
                                          refine go_istoreX_5 e15_167 rfl ?_
                                          intro cd hcd
                                          obtain rfl : cd = (192 : Int32) := by rw [hcd]; decide
                                          refine go_aloadN e15_169 rfl rfl ?_
                                          refine go_getfield e15_170 (wd 104 rfl) rfl (j := 2) rfl ?_
                                          refine go_iload e15_173 rfl ?_
                                          refine go_iload e15_175 rfl ?_
                                          refine go_iastore e15_177 rfl (k := 8) (by decide) (Nat.le_of_ble_eq_true rfl) ?_
                                          simp only [List.replicate_succ, List.replicate_zero, List.set_cons_zero, List.set_cons_succ, List.length_nil, List.length_cons, Nat.zero_add, Nat.reduceAdd, List.nil_append, List.cons_append]
                                          refine go_aloadN e15_178 rfl rfl ?_
                                          refine go_getfield e15_179 (wd 108 rfl) rfl (j := 4) rfl ?_
                                          refine go_iload e15_182 rfl ?_
                                          refine go_iload e15_184 rfl ?_
                                          refine go_iastore e15_186 rfl (k := 8) (by decide) (Nat.le_of_ble_eq_true rfl) ?_
                                          simp only [List.replicate_succ, List.replicate_zero, List.set_cons_zero, List.set_cons_succ, List.length_nil, List.length_cons, Nat.zero_add, Nat.reduceAdd, List.nil_append, List.cons_append]
                                          refine go_iload e15_187 rfl ?_
                                          refine go_aloadN e15_189 rfl rfl ?_
                                          refine go_getfield e15_190 (wd 106 rfl) rfl (j := 3) rfl ?_
                                          refine go_iload e15_193 rfl ?_
                                          refine go_iaload e15_195 rfl (k := 8) (by decide) rfl ?_
                                          refine go_iadd e15_196 ?_
                                          refine go_istoreX_6 e15_197 rfl ?_
                                          intro ix hix
                                          obtain rfl : ix = (3 : Int32) := by rw [hix]; decide
                                          refine go_iinc_7 e15_199 (z := 1) rfl ?_
                                          refine go_goto e15_202 (tg := 146) (by decide) ?_
                                          refine go_iload e15_146 rfl ?_
                                          refine go_bipush e15_148 (x := 20) rfl ?_
                                          refine go_icgtN e15_150 (tg := 205) (by decide) (by decide) ?_
                                          refine go_iload e15_153 rfl ?_
                                          refine go_aloadN e15_155 rfl rfl ?_
                                          refine go_getfield e15_156 (wd 106 rfl) rfl (j := 3) rfl ?_
                                          refine go_iload e15_159 rfl ?_
                                          refine go_iconst e15_161 (x := 1) rfl ?_
                                          refine go_isub e15_162 ?_
                                          refine go_iaload e15_163 rfl (k := 8) (by decide) rfl ?_
                                          refine go_iadd e15_164 ?_
                                          refine go_iconst e15_165 (x := 1) rfl ?_
                                          refine go_ishl e15_166 ?_
                                          refine go_istoreX_5 e15_167 rfl ?_
                                          intro cd hcd
                                          obtain rfl : cd = (384 : Int32) := by rw [hcd]; decide
                                          refine go_aloadN e15_169 rfl rfl ?_
                                          refine go_getfield e15_170 (wd 104 rfl) rfl (j := 2) rfl ?_
                                          refine go_iload e15_173 rfl ?_
                                          refine go_iload e15_175 rfl ?_
                                          refine go_iastore e15_177 rfl (k := 9) (by decide) (Nat.le_of_ble_eq_true rfl) ?_
                                          simp only [List.replicate_succ, List.replicate_zero, List.set_cons_zero, List.set_cons_succ, List.length_nil, List.length_cons, Nat.zero_add, Nat.reduceAdd, List.nil_append, List.cons_append]
                                          refine go_aloadN e15_178 rfl rfl ?_
                                          refine go_getfield e15_179 (wd 108 rfl) rfl (j := 4) rfl ?_
                                          refine go_iload e15_182 rfl ?_
                                          refine go_iload e15_184 rfl ?_
                                          refine go_iastore e15_186 rfl (k := 9) (by decide) (Nat.le_of_ble_eq_true rfl) ?_
                                          simp only [List.replicate_succ, List.replicate_zero, List.set_cons_zero, List.set_cons_succ, List.length_nil, List.length_cons, Nat.zero_add, Nat.reduceAdd, List.nil_append, List.cons_append]
                                          refine go_iload e15_187 rfl ?_
                                          refine go_aloadN e15_189 rfl rfl ?_
                                          refine go_getfield e15_190 (wd 106 rfl) rfl (j := 3) rfl ?_
                                          refine go_iload e15_193 rfl ?_
                                          refine go_iaload e15_195 rfl (k := 9) (by decide) rfl ?_
                                          refine go_iadd e15_196 ?_
                                          refine go_istoreX_6 e15_197 rfl ?_
                                          intro ix hix
                                          obtain rfl : ix = (3 : Int32) := by rw [hix]; decide
                                          refine go_iinc_7 e15_199 (z := 1) rfl ?_
                                          refine go_goto e15_202 (tg := 146) (by decide) ?_
                                          refine go_iload e15_146 rfl ?_
                                          refine go_bipush e15_148 (x := 20) rfl ?_
                                          refine go_icgtN e15_150 (tg := 205) (by decide) (by decide) ?_
                                          refine go_iload e15_153 rfl ?_
                                          refine go_aloadN e15_155 rfl rfl ?_
                                          refine go_getfield e15_156 (wd 106 rfl) rfl (j := 3) rfl ?_
                                          refine go_iload e15_159 rfl ?_
                                          refine go_iconst e15_161 (x := 1) rfl ?_
                                          refine go_isub e15_162 ?_
                                          refine go_iaload e15_163 rfl (k := 9) (by decide) rfl ?_
                                          refine go_iadd e15_164 ?_
                                          refine go_iconst e15_165 (x := 1) rfl ?_
                                          refine go_ishl e15_166 ?_
                                          refine go_istoreX_5 e15_167 rfl ?_
                                          intro cd hcd
                                          obtain rfl : cd = (768 : Int32) := by rw [hcd]; decide
                                          refine go_aloadN e15_169 rfl rfl ?_
                                          refine go_getfield e15_170 (wd 104 rfl) rfl (j := 2) rfl ?_
                                          refine go_iload e15_173 rfl ?_
                                          refine go_iload e15_175 rfl ?_
                                          refine go_iastore e15_177 rfl (k := 10) (by decide) (Nat.le_of_ble_eq_true rfl) ?_
                                          simp only [List.replicate_succ, List.replicate_zero, List.set_cons_zero, List.set_cons_succ, List.length_nil, List.length_cons, Nat.zero_add, Nat.reduceAdd, List.nil_append, List.cons_append]
                                          refine go_aloadN e15_178 rfl rfl ?_
                                          refine go_getfield e15_179 (wd 108 rfl) rfl (j := 4) rfl ?_
                                          refine go_iload e15_182 rfl ?_
                                          refine go_iload e15_184 rfl ?_
                                          refine go_iastore e15_186 rfl (k := 10) (by decide) (Nat.le_of_ble_eq_true rfl) ?_
                                          simp only [List.replicate_succ, List.replicate_zero, List.set_cons_zero, List.set_cons_succ, List.length_nil, List.length_cons, Nat.zero_add, Nat.reduceAdd, List.nil_append, List.cons_append]
                                          refine go_iload e15_187 rfl ?_
                                          refine go_aloadN e15_189 rfl rfl ?_
                                          refine go_getfield e15_190 (wd 106 rfl) rfl (j := 3) rfl ?_
                                          refine go_iload e15_193 rfl ?_
                                          refine go_iaload e15_195 rfl (k := 10) (by decide) rfl ?_
                                          refine go_iadd e15_196 ?_
                                          refine go_istoreX_6 e15_197 rfl ?_
                                          intro ix hix
                                          obtain rfl : ix = (3 : Int32) := by rw [hix]; decide
                                          refine go_iinc_7 e15_199 (z := 1) rfl ?_
                                          refine go_goto e15_202 (tg := 146) (by decide) ?_
                                          refine go_iload e15_146 rfl ?_
                                          refine go_bipush e15_148 (x := 20) rfl ?_
                                          refine go_icgtN e15_150 (tg := 205) (by decide) (by decide) ?_
                                          refine go_iload e15_153 rfl ?_
                                          refine go_aloadN e15_155 rfl rfl ?_
                                          refine go_getfield e15_156 (wd 106 rfl) rfl (j := 3) rfl ?_
                                          refine go_iload e15_159 rfl ?_
                                          refine go_iconst e15_161 (x := 1) rfl ?_
                                          refine go_isub e15_162 ?_
                                          refine go_iaload e15_163 rfl (k := 10) (by decide) rfl ?_
                                          refine go_iadd e15_164 ?_
                                          refine go_iconst e15_165 (x := 1) rfl ?_
                                          refine go_ishl e15_166 ?_
                                          refine go_istoreX_5 e15_167 rfl ?_
                                          intro cd hcd
                                          obtain rfl : cd = (1536 : Int32) := by rw [hcd]; decide
                                          refine go_aloadN e15_169 rfl rfl ?_
                                          refine go_getfield e15_170 (wd 104 rfl) rfl (j := 2) rfl ?_
                                          refine go_iload e15_173 rfl ?_
                                          refine go_iload e15_175 rfl ?_
                                          refine go_iastore e15_177 rfl (k := 11) (by decide) (Nat.le_of_ble_eq_true rfl) ?_
                                          simp only [List.replicate_succ, List.replicate_zero, List.set_cons_zero, List.set_cons_succ, List.length_nil, List.length_cons, Nat.zero_add, Nat.reduceAdd, List.nil_append, List.cons_append]
                                          refine go_aloadN e15_178 rfl rfl ?_
                                          refine go_getfield e15_179 (wd 108 rfl) rfl (j := 4) rfl ?_
                                          refine go_iload e15_182 rfl ?_
                                          refine go_iload e15_184 rfl ?_
                                          refine go_iastore e15_186 rfl (k := 11) (by decide) (Nat.le_of_ble_eq_true rfl) ?_
                                          simp only [List.replicate_succ, List.replicate_zero, List.set_cons_zero, List.set_cons_succ, List.length_nil, List.length_cons, Nat.zero_add, Nat.reduceAdd, List.nil_append, List.cons_append]
                                          refine go_iload e15_187 rfl ?_
                                          refine go_aloadN e15_189 rfl rfl ?_
                                          refine go_getfield e15_190 (wd 106 rfl) rfl (j := 3) rfl ?_
                                          refine go_iload e15_193 rfl ?_
                                          refine go_iaload e15_195 rfl (k := 11) (by decide) rfl ?_
                                          refine go_iadd e15_196 ?_
                                          refine go_istoreX_6 e15_197 rfl ?_
                                          intro ix hix
                                          obtain rfl : ix = (3 : Int32) := by rw [hix]; decide
                                          refine go_iinc_7 e15_199 (z := 1) rfl ?_
                                          refine go_goto e15_202 (tg := 146) (by decide) ?_
                                          refine go_iload e15_146 rfl ?_
                                          refine go_bipush e15_148 (x := 20) rfl ?_
                                          refine go_icgtN e15_150 (tg := 205) (by decide) (by decide) ?_
                                          refine go_iload e15_153 rfl ?_
                                          refine go_aloadN e15_155 rfl rfl ?_
                                          refine go_getfield e15_156 (wd 106 rfl) rfl (j := 3) rfl ?_
                                          refine go_iload e15_159 rfl ?_
                                          refine go_iconst e15_161 (x := 1) rfl ?_
                                          refine go_isub e15_162 ?_
                                          refine go_iaload e15_163 rfl (k := 11) (by decide) rfl ?_
                                          refine go_iadd e15_164 ?_
                                          refine go_iconst e15_165 (x := 1) rfl ?_
                                          refine go_ishl e15_166 ?_
                                          refine go_istoreX_5 e15_167 rfl ?_
                                          intro cd hcd
                                          obtain rfl : cd = (3072 : Int32) := by rw [hcd]; decide
                                          refine go_aloadN e15_169 rfl rfl ?_
                                          refine go_getfield e15_170 (wd 104 rfl) rfl (j := 2) rfl ?_
                                          refine go_iload e15_173 rfl ?_
                                          refine go_iload e15_175 rfl ?_
                                          refine go_iastore e15_177 rfl (k := 12) (by decide) (Nat.le_of_ble_eq_true rfl) ?_
                                          simp only [List.replicate_succ, List.replicate_zero, List.set_cons_zero, List.set_cons_succ, List.length_nil, List.length_cons, Nat.zero_add, Nat.reduceAdd, List.nil_append, List.cons_append]
                                          refine go_aloadN e15_178 rfl rfl ?_
                                          refine go_getfield e15_179 (wd 108 rfl) rfl (j := 4) rfl ?_
                                          refine go_iload e15_182 rfl ?_
                                          refine go_iload e15_184 rfl ?_
                                          refine go_iastore e15_186 rfl (k := 12) (by decide) (Nat.le_of_ble_eq_true rfl) ?_
                                          simp only [List.replicate_succ, List.replicate_zero, List.set_cons_zero, List.set_cons_succ, List.length_nil, List.length_cons, Nat.zero_add, Nat.reduceAdd, List.nil_append, List.cons_append]
                                          refine go_iload e15_187 rfl ?_
                                          refine go_aloadN e15_189 rfl rfl ?_
                                          refine go_getfield e15_190 (wd 106 rfl) rfl (j := 3) rfl ?_
                                          refine go_iload e15_193 rfl ?_
                                          refine go_iaload e15_195 rfl (k := 12) (by decide) rfl ?_
                                          refine go_iadd e15_196 ?_
                                          refine go_istoreX_6 e15_197 rfl ?_
                                          intro ix hix
                                          obtain rfl : ix = (3 : Int32) := by rw [hix]; decide
                                          refine go_iinc_7 e15_199 (z := 1) rfl ?_
                                          refine go_goto e15_202 (tg := 146) (by decide) ?_
                                          refine go_iload e15_146 rfl ?_
                                          refine go_bipush e15_148 (x := 20) rfl ?_
                                          refine go_icgtN e15_150 (tg := 205) (by decide) (by decide) ?_
                                          refine go_iload e15_153 rfl ?_
                                          refine go_aloadN e15_155 rfl rfl ?_
                                          refine go_getfield e15_156 (wd 106 rfl) rfl (j := 3) rfl ?_
                                          refine go_iload e15_159 rfl ?_
                                          refine go_iconst e15_161 (x := 1) rfl ?_
                                          refine go_isub e15_162 ?_
                                          refine go_iaload e15_163 rfl (k := 12) (by decide) rfl ?_
                                          refine go_iadd e15_164 ?_
                                          refine go_iconst e15_165 (x := 1) rfl ?_
                                          refine go_ishl e15_166 ?_
                                          refine go_istoreX_5 e15_167 rfl ?_
                                          intro cd hcd
                                          obtain rfl : cd = (6144 : Int32) := by rw [hcd]; decide
                                          refine go_aloadN e15_169 rfl rfl ?_
                                          refine go_getfield e15_170 (wd 104 rfl) rfl (j := 2) rfl ?_
                                          refine go_iload e15_173 rfl ?_
                                          refine go_iload e15_175 rfl ?_
                                          refine go_iastore e15_177 rfl (k := 13) (by decide) (Nat.le_of_ble_eq_true rfl) ?_
                                          simp only [List.replicate_succ, List.replicate_zero, List.set_cons_zero, List.set_cons_succ, List.length_nil, List.length_cons, Nat.zero_add, Nat.reduceAdd, List.nil_append, List.cons_append]
                                          refine go_aloadN e15_178 rfl rfl ?_
                                          refine go_getfield e15_179 (wd 108 rfl) rfl (j := 4) rfl ?_
                                          refine go_iload e15_182 rfl ?_
                                          refine go_iload e15_184 rfl ?_
                                          refine go_iastore e15_186 rfl (k := 13) (by decide) (Nat.le_of_ble_eq_true rfl) ?_
                                          simp only [List.replicate_succ, List.replicate_zero, List.set_cons_zero, List.set_cons_succ, List.length_nil, List.length_cons, Nat.zero_add, Nat.reduceAdd, List.nil_append, List.cons_append]
                                          refine go_iload e15_187 rfl ?_
                                          refine go_aloadN e15_189 rfl rfl ?_
                                          refine go_getfield e15_190 (wd 106 rfl) rfl (j := 3) rfl ?_
                                          refine go_iload e15_193 rfl ?_
                                          refine go_iaload e15_195 rfl (k := 13) (by decide) rfl ?_
                                          refine go_iadd e15_196 ?_
                                          refine go_istoreX_6 e15_197 rfl ?_
                                          intro ix hix
                                          obtain rfl : ix = (3 : Int32) := by rw [hix]; decide
                                          refine go_iinc_7 e15_199 (z := 1) rfl ?_
                                          refine go_goto e15_202 (tg := 146) (by decide) ?_
                                          refine go_iload e15_146 rfl ?_
                                          refine go_bipush e15_148 (x := 20) rfl ?_
                                          refine go_icgtN e15_150 (tg := 205) (by decide) (by decide) ?_
                                          refine go_iload e15_153 rfl ?_
                                          refine go_aloadN e15_155 rfl rfl ?_
                                          refine go_getfield e15_156 (wd 106 rfl) rfl (j := 3) rfl ?_
                                          refine go_iload e15_159 rfl ?_
                                          refine go_iconst e15_161 (x := 1) rfl ?_
                                          refine go_isub e15_162 ?_
                                          refine go_iaload e15_163 rfl (k := 13) (by decide) rfl ?_
                                          refine go_iadd e15_164 ?_
                                          refine go_iconst e15_165 (x := 1) rfl ?_
                                          refine go_ishl e15_166 ?_
                                          refine go_istoreX_5 e15_167 rfl ?_
                                          intro cd hcd
                                          obtain rfl : cd = (12288 : Int32) := by rw [hcd]; decide
                                          refine go_aloadN e15_169 rfl rfl ?_
                                          refine go_getfield e15_170 (wd 104 rfl) rfl (j := 2) rfl ?_
                                          refine go_iload e15_173 rfl ?_
                                          refine go_iload e15_175 rfl ?_
                                          refine go_iastore e15_177 rfl (k := 14) (by decide) (Nat.le_of_ble_eq_true rfl) ?_
                                          simp only [List.replicate_succ, List.replicate_zero, List.set_cons_zero, List.set_cons_succ, List.length_nil, List.length_cons, Nat.zero_add, Nat.reduceAdd, List.nil_append, List.cons_append]
                                          refine go_aloadN e15_178 rfl rfl ?_
                                          refine go_getfield e15_179 (wd 108 rfl) rfl (j := 4) rfl ?_
                                          refine go_iload e15_182 rfl ?_
                                          refine go_iload e15_184 rfl ?_
                                          refine go_iastore e15_186 rfl (k := 14) (by decide) (Nat.le_of_ble_eq_true rfl) ?_
                                          simp only [List.replicate_succ, List.replicate_zero, List.set_cons_zero, List.set_cons_succ, List.length_nil, List.length_cons, Nat.zero_add, Nat.reduceAdd, List.nil_append, List.cons_append]
                                          refine go_iload e15_187 rfl ?_
                                          refine go_aloadN e15_189 rfl rfl ?_
                                          refine go_getfield e15_190 (wd 106 rfl) rfl (j := 3) rfl ?_
                                          refine go_iload e15_193 rfl ?_
                                          refine go_iaload e15_195 rfl (k := 14) (by decide) rfl ?_
                                          refine go_iadd e15_196 ?_
                                          refine go_istoreX_6 e15_197 rfl ?_
                                          intro ix hix
                                          obtain rfl : ix = (3 : Int32) := by rw [hix]; decide
                                          refine go_iinc_7 e15_199 (z := 1) rfl ?_
                                          refine go_goto e15_202 (tg := 146) (by decide) ?_
                                          refine go_iload e15_146 rfl ?_
                                          refine go_bipush e15_148 (x := 20) rfl ?_
                                          refine go_icgtN e15_150 (tg := 205) (by decide) (by decide) ?_
                                          refine go_iload e15_153 rfl ?_
                                          refine go_aloadN e15_155 rfl rfl ?_
                                          refine go_getfield e15_156 (wd 106 rfl) rfl (j := 3) rfl ?_
                                          refine go_iload e15_159 rfl ?_
                                          refine go_iconst e15_161 (x := 1) rfl ?_
                                          refine go_isub e15_162 ?_
                                          refine go_iaload e15_163 rfl (k := 14) (by decide) rfl ?_
                                          refine go_iadd e15_164 ?_
                                          refine go_iconst e15_165 (x := 1) rfl ?_
                                          refine go_ishl e15_166 ?_
                                          refine go_istoreX_5 e15_167 rfl ?_
                                          intro cd hcd
                                          obtain rfl : cd = (24576 : Int32) := by rw [hcd]; decide
                                          refine go_aloadN e15_169 rfl rfl ?_
                                          refine go_getfield e15_170 (wd 104 rfl) rfl (j := 2) rfl ?_
                                          refine go_iload e15_173 rfl ?_
                                          refine go_iload e15_175 rfl ?_
                                          refine go_iastore e15_177 rfl (k := 15) (by decide) (Nat.le_of_ble_eq_true rfl) ?_
                                          simp only [List.replicate_succ, List.replicate_zero, List.set_cons_zero, List.set_cons_succ, List.length_nil, List.length_cons, Nat.zero_add, Nat.reduceAdd, List.nil_append, List.cons_append]
                                          refine go_aloadN e15_178 rfl rfl ?_
                                          refine go_getfield e15_179 (wd 108 rfl) rfl (j := 4) rfl ?_
                                          refine go_iload e15_182 rfl ?_
                                          refine go_iload e15_184 rfl ?_
                                          refine go_iastore e15_186 rfl (k := 15) (by decide) (Nat.le_of_ble_eq_true rfl) ?_
                                          simp only [List.replicate_succ, List.replicate_zero, List.set_cons_zero, List.set_cons_succ, List.length_nil, List.length_cons, Nat.zero_add, Nat.reduceAdd, List.nil_append, List.cons_append]
                                          refine go_iload e15_187 rfl ?_
                                          refine go_aloadN e15_189 rfl rfl ?_
                                          refine go_getfield e15_190 (wd 106 rfl) rfl (j := 3) rfl ?_
                                          refine go_iload e15_193 rfl ?_
                                          refine go_iaload e15_195 rfl (k := 15) (by decide) rfl ?_
                                          refine go_iadd e15_196 ?_
                                          refine go_istoreX_6 e15_197 rfl ?_
                                          intro ix hix
                                          obtain rfl : ix = (3 : Int32) := by rw [hix]; decide
                                          refine go_iinc_7 e15_199 (z := 1) rfl ?_
                                          refine go_goto e15_202 (tg := 146) (by decide) ?_
                                          refine go_iload e15_146 rfl ?_
                                          refine go_bipush e15_148 (x := 20) rfl ?_
                                          refine go_icgtN e15_150 (tg := 205) (by decide) (by decide) ?_
                                          refine go_iload e15_153 rfl ?_
                                          refine go_aloadN e15_155 rfl rfl ?_
                                          refine go_getfield e15_156 (wd 106 rfl) rfl (j := 3) rfl ?_
                                          refine go_iload e15_159 rfl ?_
                                          refine go_iconst e15_161 (x := 1) rfl ?_
                                          refine go_isub e15_162 ?_
                                          refine go_iaload e15_163 rfl (k := 15) (by decide) rfl ?_
                                          refine go_iadd e15_164 ?_
                                          refine go_iconst e15_165 (x := 1) rfl ?_
                                          refine go_ishl e15_166 ?_
                                          refine go_istoreX_5 e15_167 rfl ?_
                                          intro cd hcd
                                          obtain rfl : cd = (49152 : Int32) := by rw [hcd]; decide
                                          refine go_aloadN e15_169 rfl rfl ?_
                                          refine go_getfield e15_170 (wd 104 rfl) rfl (j := 2) rfl ?_
                                          refine go_iload e15_173 rfl ?_
                                          refine go_iload e15_175 rfl ?_
                                          refine go_iastore e15_177 rfl (k := 16) (by decide) (Nat.le_of_ble_eq_true rfl) ?_
                                          simp only [List.replicate_succ, List.replicate_zero, List.set_cons_zero, List.set_cons_succ, List.length_nil, List.length_cons, Nat.zero_add, Nat.reduceAdd, List.nil_append, List.cons_append]
                                          refine go_aloadN e15_178 rfl rfl ?_
                                          refine go_getfield e15_179 (wd 108 rfl) rfl (j := 4) rfl ?_
                                          refine go_iload e15_182 rfl ?_
                                          refine go_iload e15_184 rfl ?_
                                          refine go_iastore e15_186 rfl (k := 16) (by decide) (Nat.le_of_ble_eq_true rfl) ?_
                                          simp only [List.replicate_succ, List.replicate_zero, List.set_cons_zero, List.set_cons_succ, List.length_nil, List.length_cons, Nat.zero_add, Nat.reduceAdd, List.nil_append, List.cons_append]
                                          refine go_iload e15_187 rfl ?_
                                          refine go_aloadN e15_189 rfl rfl ?_
                                          refine go_getfield e15_190 (wd 106 rfl) rfl (j := 3) rfl ?_
                                          refine go_iload e15_193 rfl ?_
                                          refine go_iaload e15_195 rfl (k := 16) (by decide) rfl ?_
                                          refine go_iadd e15_196 ?_
                                          refine go_istoreX_6 e15_197 rfl ?_
                                          intro ix hix
                                          obtain rfl : ix = (3 : Int32) := by rw [hix]; decide
                                          refine go_iinc_7 e15_199 (z := 1) rfl ?_
                                          refine go_goto e15_202 (tg := 146) (by decide) ?_
                                          refine go_iload e15_146 rfl ?_
                                          refine go_bipush e15_148 (x := 20) rfl ?_
                                          refine go_icgtN e15_150 (tg := 205) (by decide) (by decide) ?_
                                          refine go_iload e15_153 rfl ?_
                                          refine go_aloadN e15_155 rfl rfl ?_
                                          refine go_getfield e15_156 (wd 106 rfl) rfl (j := 3) rfl ?_
                                          refine go_iload e15_159 rfl ?_
                                          refine go_iconst e15_161 (x := 1) rfl ?_
                                          refine go_isub e15_162 ?_
                                          refine go_iaload e15_163 rfl (k := 16) (by decide) rfl ?_
                                          refine go_iadd e15_164 ?_
                                          refine go_iconst e15_165 (x := 1) rfl ?_
                                          refine go_ishl e15_166 ?_
                                          refine go_istoreX_5 e15_167 rfl ?_
                                          intro cd hcd
                                          obtain rfl : cd = (98304 : Int32) := by rw [hcd]; decide
                                          refine go_aloadN e15_169 rfl rfl ?_
                                          refine go_getfield e15_170 (wd 104 rfl) rfl (j := 2) rfl ?_
                                          refine go_iload e15_173 rfl ?_
                                          refine go_iload e15_175 rfl ?_
                                          refine go_iastore e15_177 rfl (k := 17) (by decide) (Nat.le_of_ble_eq_true rfl) ?_
                                          simp only [List.replicate_succ, List.replicate_zero, List.set_cons_zero, List.set_cons_succ, List.length_nil, List.length_cons, Nat.zero_add, Nat.reduceAdd, List.nil_append, List.cons_append]
                                          refine go_aloadN e15_178 rfl rfl ?_
                                          refine go_getfield e15_179 (wd 108 rfl) rfl (j := 4) rfl ?_
                                          refine go_iload e15_182 rfl ?_
                                          refine go_iload e15_184 rfl ?_
                                          refine go_iastore e15_186 rfl (k := 17) (by decide) (Nat.le_of_ble_eq_true rfl) ?_
                                          simp only [List.replicate_succ, List.replicate_zero, List.set_cons_zero, List.set_cons_succ, List.length_nil, List.length_cons, Nat.zero_add, Nat.reduceAdd, List.nil_append, List.cons_append]
                                          refine go_iload e15_187 rfl ?_
                                          refine go_aloadN e15_189 rfl rfl ?_
                                          refine go_getfield e15_190 (wd 106 rfl) rfl (j := 3) rfl ?_
                                          refine go_iload e15_193 rfl ?_
                                          refine go_iaload e15_195 rfl (k := 17) (by decide) rfl ?_
                                          refine go_iadd e15_196 ?_
                                          refine go_istoreX_6 e15_197 rfl ?_
                                          intro ix hix
                                          obtain rfl : ix = (3 : Int32) := by rw [hix]; decide
                                          refine go_iinc_7 e15_199 (z := 1) rfl ?_
                                          refine go_goto e15_202 (tg := 146) (by decide) ?_
                                          refine go_iload e15_146 rfl ?_
                                          refine go_bipush e15_148 (x := 20) rfl ?_
                                          refine go_icgtN e15_150 (tg := 205) (by decide) (by decide) ?_
                                          refine go_iload e15_153 rfl ?_
                                          refine go_aloadN e15_155 rfl rfl ?_
                                          refine go_getfield e15_156 (wd 106 rfl) rfl (j := 3) rfl ?_
                                          refine go_iload e15_159 rfl ?_
                                          refine go_iconst e15_161 (x := 1) rfl ?_
                                          refine go_isub e15_162 ?_
                                          refine go_iaload e15_163 rfl (k := 17) (by decide) rfl ?_
                                          refine go_iadd e15_164 ?_
                                          refine go_iconst e15_165 (x := 1) rfl ?_
                                          refine go_ishl e15_166 ?_
                                          refine go_istoreX_5 e15_167 rfl ?_
                                          intro cd hcd
                                          obtain rfl : cd = (196608 : Int32) := by rw [hcd]; decide
                                          refine go_aloadN e15_169 rfl rfl ?_
                                          refine go_getfield e15_170 (wd 104 rfl) rfl (j := 2) rfl ?_
                                          refine go_iload e15_173 rfl ?_
                                          refine go_iload e15_175 rfl ?_
                                          refine go_iastore e15_177 rfl (k := 18) (by decide) (Nat.le_of_ble_eq_true rfl) ?_
                                          simp only [List.replicate_succ, List.replicate_zero, List.set_cons_zero, List.set_cons_succ, List.length_nil, List.length_cons, Nat.zero_add, Nat.reduceAdd, List.nil_append, List.cons_append]
                                          refine go_aloadN e15_178 rfl rfl ?_
                                          refine go_getfield e15_179 (wd 108 rfl) rfl (j := 4) rfl ?_
                                          refine go_iload e15_182 rfl ?_
                                          refine go_iload e15_184 rfl ?_
                                          refine go_iastore e15_186 rfl (k := 18) (by decide) (Nat.le_of_ble_eq_true rfl) ?_
                                          simp only [List.replicate_succ, List.replicate_zero, List.set_cons_zero, List.set_cons_succ, List.length_nil, List.length_cons, Nat.zero_add, Nat.reduceAdd, List.nil_append, List.cons_append]
                                          refine go_iload e15_187 rfl ?_
                                          refine go_aloadN e15_189 rfl rfl ?_
                                          refine go_getfield e15_190 (wd 106 rfl) rfl (j := 3) rfl ?_
                                          refine go_iload e15_193 rfl ?_
                                          refine go_iaload e15_195 rfl (k := 18) (by decide) rfl ?_
                                          refine go_iadd e15_196 ?_
                                          refine go_istoreX_6 e15_197 rfl ?_
                                          intro ix hix
                                          obtain rfl : ix = (3 : Int32) := by rw [hix]; decide
                                          refine go_iinc_7 e15_199 (z := 1) rfl ?_
                                          refine go_goto e15_202 (tg := 146) (by decide) ?_
                                          refine go_iload e15_146 rfl ?_
                                          refine go_bipush e15_148 (x := 20) rfl ?_
                                          refine go_icgtN e15_150 (tg := 205) (by decide) (by decide) ?_
                                          refine go_iload e15_153 rfl ?_
                                          refine go_aloadN e15_155 rfl rfl ?_
                                          refine go_getfield e15_156 (wd 106 rfl) rfl (j := 3) rfl ?_
                                          refine go_iload e15_159 rfl ?_
                                          refine go_iconst e15_161 (x := 1) rfl ?_
                                          refine go_isub e15_162 ?_
                                          refine go_iaload e15_163 rfl (k := 18) (by decide) rfl ?_
                                          refine go_iadd e15_164 ?_
                                          refine go_iconst e15_165 (x := 1) rfl ?_
                                          refine go_ishl e15_166 ?_
                                          refine go_istoreX_5 e15_167 rfl ?_
                                          intro cd hcd
                                          obtain rfl : cd = (393216 : Int32) := by rw [hcd]; decide
                                          refine go_aloadN e15_169 rfl rfl ?_
                                          refine go_getfield e15_170 (wd 104 rfl) rfl (j := 2) rfl ?_
                                          refine go_iload e15_173 rfl ?_
                                          refine go_iload e15_175 rfl ?_
                                          refine go_iastore e15_177 rfl (k := 19) (by decide) (Nat.le_of_ble_eq_true rfl) ?_
                                          simp only [List.replicate_succ, List.replicate_zero, List.set_cons_zero, List.set_cons_succ, List.length_nil, List.length_cons, Nat.zero_add, Nat.reduceAdd, List.nil_append, List.cons_append]
                                          refine go_aloadN e15_178 rfl rfl ?_
                                          refine go_getfield e15_179 (wd 108 rfl) rfl (j := 4) rfl ?_
                                          refine go_iload e15_182 rfl ?_
                                          refine go_iload e15_184 rfl ?_
                                          refine go_iastore e15_186 rfl (k := 19) (by decide) (Nat.le_of_ble_eq_true rfl) ?_
                                          simp only [List.replicate_succ, List.replicate_zero, List.set_cons_zero, List.set_cons_succ, List.length_nil, List.length_cons, Nat.zero_add, Nat.reduceAdd, List.nil_append, List.cons_append]
                                          refine go_iload e15_187 rfl ?_
                                          refine go_aloadN e15_189 rfl rfl ?_
                                          refine go_getfield e15_190 (wd 106 rfl) rfl (j := 3) rfl ?_
                                          refine go_iload e15_193 rfl ?_
                                          refine go_iaload e15_195 rfl (k := 19) (by decide) rfl ?_
                                          refine go_iadd e15_196 ?_
                                          refine go_istoreX_6 e15_197 rfl ?_
                                          intro ix hix
                                          obtain rfl : ix = (3 : Int32) := by rw [hix]; decide
                                          refine go_iinc_7 e15_199 (z := 1) rfl ?_
                                          refine go_goto e15_202 (tg := 146) (by decide) ?_
                                          refine go_iload e15_146 rfl ?_
                                          refine go_bipush e15_148 (x := 20) rfl ?_
                                          refine go_icgtN e15_150 (tg := 205) (by decide) (by decide) ?_
                                          refine go_iload e15_153 rfl ?_
                                          refine go_aloadN e15_155 rfl rfl ?_
                                          refine go_getfield e15_156 (wd 106 rfl) rfl (j := 3) rfl ?_
                                          refine go_iload e15_159 rfl ?_
                                          refine go_iconst e15_161 (x := 1) rfl ?_
                                          refine go_isub e15_162 ?_
                                          refine go_iaload e15_163 rfl (k := 19) (by decide) rfl ?_
                                          refine go_iadd e15_164 ?_
                                          refine go_iconst e15_165 (x := 1) rfl ?_
                                          refine go_ishl e15_166 ?_
                                          refine go_istoreX_5 e15_167 rfl ?_
                                          intro cd hcd
                                          obtain rfl : cd = (786432 : Int32) := by rw [hcd]; decide
                                          refine go_aloadN e15_169 rfl rfl ?_
                                          refine go_getfield e15_170 (wd 104 rfl) rfl (j := 2) rfl ?_
                                          refine go_iload e15_173 rfl ?_
                                          refine go_iload e15_175 rfl ?_
                                          refine go_iastore e15_177 rfl (k := 20) (by decide) (Nat.le_of_ble_eq_true rfl) ?_
                                          simp only [List.replicate_succ, List.replicate_zero, List.set_cons_zero, List.set_cons_succ, List.length_nil, List.length_cons, Nat.zero_add, Nat.reduceAdd, List.nil_append, List.cons_append]
                                          refine go_aloadN e15_178 rfl rfl ?_
                                          refine go_getfield e15_179 (wd 108 rfl) rfl (j := 4) rfl ?_
                                          refine go_iload e15_182 rfl ?_
                                          refine go_iload e15_184 rfl ?_
                                          refine go_iastore e15_186 rfl (k := 20) (by decide) (Nat.le_of_ble_eq_true rfl) ?_
                                          simp only [List.replicate_succ, List.replicate_zero, List.set_cons_zero, List.set_cons_succ, List.length_nil, List.length_cons, Nat.zero_add, Nat.reduceAdd, List.nil_append, List.cons_append]
                                          refine go_iload e15_187 rfl ?_
                                          refine go_aloadN e15_189 rfl rfl ?_
                                          refine go_getfield e15_190 (wd 106 rfl) rfl (j := 3) rfl ?_
                                          refine go_iload e15_193 rfl ?_
                                          refine go_iaload e15_195 rfl (k := 20) (by decide) rfl ?_
                                          refine go_iadd e15_196 ?_
                                          refine go_istoreX_6 e15_197 rfl ?_
                                          intro ix hix
                                          obtain rfl : ix = (3 : Int32) := by rw [hix]; decide
                                          refine go_iinc_7 e15_199 (z := 1) rfl ?_
                                          refine go_goto e15_202 (tg := 146) (by decide) ?_
                                          refine go_iload e15_146 rfl ?_
                                          refine go_bipush e15_148 (x := 20) rfl ?_
                                          refine go_icgtY e15_150 (tg := 205) (by decide) (by decide) ?_
                                          refine go_aloadN e15_205 rfl rfl ?_
                                          refine go_aloadN e15_206 rfl rfl ?_
                                          refine go_len e15_207 rfl (n := 3) rfl ?_
                                          refine go_newarray e15_208 (wd 15 rfl) (k := 3) rfl (vs := [.int 0, .int 0, .int 0]) rfl (cap := 3) (by decide) (by decide) (by decide) (by decide) ?_
                                          simp only [List.replicate_succ, List.replicate_zero, List.set_cons_zero, List.set_cons_succ, List.length_nil, List.length_cons, Nat.zero_add, Nat.reduceAdd, List.nil_append, List.cons_append]
                                          refine go_putfield e15_210 (wd 111 rfl) (Or.inr ⟨(wd 112 rfl), rfl, rfl⟩) (wd 90 rfl) pf_13 rfl (j := 5) rfl rfl rfl ?_
                                          simp only [List.replicate_succ, List.replicate_zero, List.set_cons_zero, List.set_cons_succ, List.length_nil, List.length_cons, Nat.zero_add, Nat.reduceAdd, List.nil_append, List.cons_append]
                                          refine go_aloadN e15_213 rfl rfl ?_
                                          refine go_getfield e15_214 (wd 108 rfl) rfl (j := 4) rfl ?_
                                          refine go_clone (C := C) e15_217 (wd 113 rfl) (wd 114 rfl) (wd 118 rfl) (wd 116 rfl) (wd 117 rfl) (wd 119 rfl) rfl (own_all rfl) rfl (by decide) 0 (Nat.le_of_eq rfl) (by decide) (cap := 21) (Nat.le_of_ble_eq_true rfl) (by decide) (by decide) ?_
                                          simp only [List.replicate_succ, List.replicate_zero, List.set_cons_zero, List.set_cons_succ, List.length_nil, List.length_cons, Nat.zero_add, Nat.reduceAdd, List.nil_append, List.cons_append]
                                          refine go_castA (C := C) (ty := .int) e15_220 (wd 120 rfl) rfl ?_
                                          refine go_astore_7 e15_223 rfl rfl ?_
                                          refine go_iconst e15_225 (x := 0) rfl ?_
                                          refine go_istore_8 e15_226 rfl ?_
                                          refine go_iload e15_228 rfl ?_
                                          refine go_aloadN e15_230 rfl rfl ?_
                                          refine go_len e15_231 rfl (n := 3) rfl ?_
                                          refine go_icgeN e15_232 (tg := 328) (by decide) (by decide) ?_
                                          refine go_aloadN e15_235 rfl rfl ?_
                                          refine go_iload e15_236 rfl ?_
                                          refine go_iaload e15_238 rfl (k := 0) (by decide) rfl ?_
                                          refine go_istore_9 e15_239 rfl ?_
                                          refine go_aload e15_241 rfl rfl ?_
                                          refine go_iload e15_243 rfl ?_
                                          refine go_dup2 e15_245 rfl rfl ?_
                                          refine go_iaload e15_246 rfl (k := 2) (by decide) rfl ?_
                                          refine go_dupX2 e15_247 rfl rfl rfl ?_
                                          refine go_iconst e15_248 (x := 1) rfl ?_
                                          refine go_iadd e15_249 ?_
                                          refine go_iastore e15_250 rfl (k := 2) (by decide) (Nat.le_of_ble_eq_true rfl) ?_
                                          simp only [List.replicate_succ, List.replicate_zero, List.set_cons_zero, List.set_cons_succ, List.length_nil, List.length_cons, Nat.zero_add, Nat.reduceAdd, List.nil_append, List.cons_append]
                                          refine go_istore_10 e15_251 rfl ?_
                                          refine go_aloadN e15_253 rfl rfl ?_
                                          refine go_getfield e15_254 (wd 111 rfl) rfl (j := 5) rfl ?_
                                          refine go_iload e15_257 rfl ?_
                                          refine go_iload e15_259 rfl ?_
                                          refine go_iastore e15_261 rfl (k := 0) (by decide) (Nat.le_of_ble_eq_true rfl) ?_
                                          simp only [List.replicate_succ, List.replicate_zero, List.set_cons_zero, List.set_cons_succ, List.length_nil, List.length_cons, Nat.zero_add, Nat.reduceAdd, List.nil_append, List.cons_append]
                                          refine go_iload e15_262 rfl ?_
                                          refine go_bipush e15_264 (x := 10) rfl ?_
                                          refine go_icgtN e15_266 (tg := 322) (by decide) (by decide) ?_
                                          refine go_bipush e15_269 (x := 10) rfl ?_
                                          refine go_iload e15_271 rfl ?_
                                          refine go_isub e15_273 ?_
                                          refine go_istore_11 e15_274 rfl ?_
                                          refine go_aloadN e15_276 rfl rfl ?_
                                          refine go_getfield e15_277 (wd 104 rfl) rfl (j := 2) rfl ?_
                                          refine go_iload e15_280 rfl ?_
                                          refine go_iaload e15_282 rfl (k := 2) (by decide) rfl ?_
                                          refine go_iload e15_283 rfl ?_
                                          refine go_iadd e15_285 ?_
                                          refine go_aloadN e15_286 rfl rfl ?_
                                          refine go_getfield e15_287 (wd 108 rfl) rfl (j := 4) rfl ?_
                                          refine go_iload e15_290 rfl ?_
                                          refine go_iaload e15_292 rfl (k := 2) (by decide) rfl ?_
                                          refine go_isub e15_293 ?_
                                          refine go_iload e15_294 rfl ?_
                                          refine go_ishl e15_296 ?_
                                          refine go_istore_12 e15_297 rfl ?_
                                          refine go_aloadN e15_299 rfl rfl ?_
                                          refine go_getfield e15_300 (wd 102 rfl) rfl (j := 1) rfl ?_
                                          refine go_iload e15_303 rfl ?_
                                          refine go_iload e15_305 rfl ?_
                                          refine go_iconst e15_307 (x := 1) rfl ?_
                                          refine go_iload e15_308 rfl ?_
                                          refine go_ishl e15_310 ?_
                                          refine go_iadd e15_311 ?_
                                          refine go_iload e15_312 rfl ?_
                                          refine go_iconst e15_314 (x := 5) rfl ?_
                                          refine go_ishl e15_315 ?_
                                          refine go_iload e15_316 rfl ?_
                                          refine go_ior e15_318 ?_
                                          refine go_staticV_4 e15_319 (wd 122 rfl) (wd 123 rfl) (wd 124 rfl) (wd 73 rfl) hy_8 pd_14 rfl (c_afill hw (f := 0) (t := 256) rfl (by decide) (by decide) (by decide) (by omega) (by omega)) rfl 0 rfl (by decide) (by decide) (by decide) (by decide) ?_
                                          rintro _ ⟨us0, hul0, hus0, rfl⟩
                                          try simp only [List.replicate_succ, List.replicate_zero, List.set_cons_zero, List.set_cons_succ, List.length_nil, List.length_cons, Nat.zero_add, Nat.reduceAdd, List.nil_append, List.cons_append]
                                          refine go_iinc_8 e15_322 (z := 1) rfl ?_
                                          refine go_goto e15_325 (tg := 228) (by decide) ?_
                                          refine go_iload e15_228 rfl ?_
                                          refine go_aloadN e15_230 rfl rfl ?_
                                          refine go_len e15_231 rfl (n := 3) rfl ?_
                                          refine go_icgeN e15_232 (tg := 328) (by decide) (by decide) ?_
                                          refine go_aloadN e15_235 rfl rfl ?_
                                          refine go_iload e15_236 rfl ?_
                                          refine go_iaload e15_238 rfl (k := 1) (by decide) rfl ?_
                                          refine go_istore_9 e15_239 rfl ?_
                                          refine go_aload e15_241 rfl rfl ?_
                                          refine go_iload e15_243 rfl ?_
                                          refine go_dup2 e15_245 rfl rfl ?_
                                          refine go_iaload e15_246 rfl (k := 2) (by decide) rfl ?_
                                          refine go_dupX2 e15_247 rfl rfl rfl ?_
                                          refine go_iconst e15_248 (x := 1) rfl ?_
                                          refine go_iadd e15_249 ?_
                                          refine go_iastore e15_250 rfl (k := 2) (by decide) (Nat.le_of_ble_eq_true rfl) ?_
                                          simp only [List.replicate_succ, List.replicate_zero, List.set_cons_zero, List.set_cons_succ, List.length_nil, List.length_cons, Nat.zero_add, Nat.reduceAdd, List.nil_append, List.cons_append]
                                          refine go_istore_10 e15_251 rfl ?_
                                          refine go_aloadN e15_253 rfl rfl ?_
                                          refine go_getfield e15_254 (wd 111 rfl) rfl (j := 5) rfl ?_
                                          refine go_iload e15_257 rfl ?_
                                          refine go_iload e15_259 rfl ?_
                                          refine go_iastore e15_261 rfl (k := 1) (by decide) (Nat.le_of_ble_eq_true rfl) ?_
                                          simp only [List.replicate_succ, List.replicate_zero, List.set_cons_zero, List.set_cons_succ, List.length_nil, List.length_cons, Nat.zero_add, Nat.reduceAdd, List.nil_append, List.cons_append]
                                          refine go_iload e15_262 rfl ?_
                                          refine go_bipush e15_264 (x := 10) rfl ?_
                                          refine go_icgtN e15_266 (tg := 322) (by decide) (by decide) ?_
                                          refine go_bipush e15_269 (x := 10) rfl ?_
                                          refine go_iload e15_271 rfl ?_
                                          refine go_isub e15_273 ?_
                                          refine go_istore_11 e15_274 rfl ?_
                                          refine go_aloadN e15_276 rfl rfl ?_
                                          refine go_getfield e15_277 (wd 104 rfl) rfl (j := 2) rfl ?_
                                          refine go_iload e15_280 rfl ?_
                                          refine go_iaload e15_282 rfl (k := 2) (by decide) rfl ?_
                                          refine go_iload e15_283 rfl ?_
                                          refine go_iadd e15_285 ?_
                                          refine go_aloadN e15_286 rfl rfl ?_
                                          refine go_getfield e15_287 (wd 108 rfl) rfl (j := 4) rfl ?_
                                          refine go_iload e15_290 rfl ?_
                                          refine go_iaload e15_292 rfl (k := 2) (by decide) rfl ?_
                                          refine go_isub e15_293 ?_
                                          refine go_iload e15_294 rfl ?_
                                          refine go_ishl e15_296 ?_
                                          refine go_istore_12 e15_297 rfl ?_
                                          refine go_aloadN e15_299 rfl rfl ?_
                                          refine go_getfield e15_300 (wd 102 rfl) rfl (j := 1) rfl ?_
                                          refine go_iload e15_303 rfl ?_
                                          refine go_iload e15_305 rfl ?_
                                          refine go_iconst e15_307 (x := 1) rfl ?_
                                          refine go_iload e15_308 rfl ?_
                                          refine go_ishl e15_310 ?_
                                          refine go_iadd e15_311 ?_
                                          refine go_iload e15_312 rfl ?_
                                          refine go_iconst e15_314 (x := 5) rfl ?_
                                          refine go_ishl e15_315 ?_
                                          refine go_iload e15_316 rfl ?_
                                          refine go_ior e15_318 ?_
                                          refine go_staticV_4 e15_319 (wd 122 rfl) (wd 123 rfl) (wd 124 rfl) (wd 73 rfl) hy_8 pd_14 rfl (c_afill hw (f := 256) (t := 512) rfl (by decide) (by decide) (by decide) (by omega) (by omega)) rfl 0 rfl (by decide) (by decide) (by decide) (by decide) ?_
                                          rintro _ ⟨us1, hul1, hus1, rfl⟩
                                          try simp only [List.replicate_succ, List.replicate_zero, List.set_cons_zero, List.set_cons_succ, List.length_nil, List.length_cons, Nat.zero_add, Nat.reduceAdd, List.nil_append, List.cons_append]
                                          refine go_iinc_8 e15_322 (z := 1) rfl ?_
                                          refine go_goto e15_325 (tg := 228) (by decide) ?_
                                          refine go_iload e15_228 rfl ?_
                                          refine go_aloadN e15_230 rfl rfl ?_
                                          refine go_len e15_231 rfl (n := 3) rfl ?_
                                          refine go_icgeN e15_232 (tg := 328) (by decide) (by decide) ?_
                                          refine go_aloadN e15_235 rfl rfl ?_
                                          refine go_iload e15_236 rfl ?_
                                          refine go_iaload e15_238 rfl (k := 2) (by decide) rfl ?_
                                          refine go_istore_9 e15_239 rfl ?_
                                          refine go_aload e15_241 rfl rfl ?_
                                          refine go_iload e15_243 rfl ?_
                                          refine go_dup2 e15_245 rfl rfl ?_
                                          refine go_iaload e15_246 rfl (k := 2) (by decide) rfl ?_
                                          refine go_dupX2 e15_247 rfl rfl rfl ?_
                                          refine go_iconst e15_248 (x := 1) rfl ?_
                                          refine go_iadd e15_249 ?_
                                          refine go_iastore e15_250 rfl (k := 2) (by decide) (Nat.le_of_ble_eq_true rfl) ?_
                                          simp only [List.replicate_succ, List.replicate_zero, List.set_cons_zero, List.set_cons_succ, List.length_nil, List.length_cons, Nat.zero_add, Nat.reduceAdd, List.nil_append, List.cons_append]
                                          refine go_istore_10 e15_251 rfl ?_
                                          refine go_aloadN e15_253 rfl rfl ?_
                                          refine go_getfield e15_254 (wd 111 rfl) rfl (j := 5) rfl ?_
                                          refine go_iload e15_257 rfl ?_
                                          refine go_iload e15_259 rfl ?_
                                          refine go_iastore e15_261 rfl (k := 2) (by decide) (Nat.le_of_ble_eq_true rfl) ?_
                                          simp only [List.replicate_succ, List.replicate_zero, List.set_cons_zero, List.set_cons_succ, List.length_nil, List.length_cons, Nat.zero_add, Nat.reduceAdd, List.nil_append, List.cons_append]
                                          refine go_iload e15_262 rfl ?_
                                          refine go_bipush e15_264 (x := 10) rfl ?_
                                          refine go_icgtN e15_266 (tg := 322) (by decide) (by decide) ?_
                                          refine go_bipush e15_269 (x := 10) rfl ?_
                                          refine go_iload e15_271 rfl ?_
                                          refine go_isub e15_273 ?_
                                          refine go_istore_11 e15_274 rfl ?_
                                          refine go_aloadN e15_276 rfl rfl ?_
                                          refine go_getfield e15_277 (wd 104 rfl) rfl (j := 2) rfl ?_
                                          refine go_iload e15_280 rfl ?_
                                          refine go_iaload e15_282 rfl (k := 2) (by decide) rfl ?_
                                          refine go_iload e15_283 rfl ?_
                                          refine go_iadd e15_285 ?_
                                          refine go_aloadN e15_286 rfl rfl ?_
                                          refine go_getfield e15_287 (wd 108 rfl) rfl (j := 4) rfl ?_
                                          refine go_iload e15_290 rfl ?_
                                          refine go_iaload e15_292 rfl (k := 2) (by decide) rfl ?_
                                          refine go_isub e15_293 ?_
                                          refine go_iload e15_294 rfl ?_
                                          refine go_ishl e15_296 ?_
                                          refine go_istore_12 e15_297 rfl ?_
                                          refine go_aloadN e15_299 rfl rfl ?_
                                          refine go_getfield e15_300 (wd 102 rfl) rfl (j := 1) rfl ?_
                                          refine go_iload e15_303 rfl ?_
                                          refine go_iload e15_305 rfl ?_
                                          refine go_iconst e15_307 (x := 1) rfl ?_
                                          refine go_iload e15_308 rfl ?_
                                          refine go_ishl e15_310 ?_
                                          refine go_iadd e15_311 ?_
                                          refine go_iload e15_312 rfl ?_
                                          refine go_iconst e15_314 (x := 5) rfl ?_
                                          refine go_ishl e15_315 ?_
                                          refine go_iload e15_316 rfl ?_
                                          refine go_ior e15_318 ?_
                                          refine go_staticV_4 e15_319 (wd 122 rfl) (wd 123 rfl) (wd 124 rfl) (wd 73 rfl) hy_8 pd_14 rfl (c_afill hw (f := 512) (t := 768) rfl (by decide) (by decide) (by decide) (by omega) (by omega)) rfl 0 rfl (by decide) (by decide) (by decide) (by decide) ?_
                                          rintro _ ⟨us2, hul2, hus2, rfl⟩
                                          try simp only [List.replicate_succ, List.replicate_zero, List.set_cons_zero, List.set_cons_succ, List.length_nil, List.length_cons, Nat.zero_add, Nat.reduceAdd, List.nil_append, List.cons_append]
                                          refine go_iinc_8 e15_322 (z := 1) rfl ?_
                                          refine go_goto e15_325 (tg := 228) (by decide) ?_
                                          refine go_iload e15_228 rfl ?_
                                          refine go_aloadN e15_230 rfl rfl ?_
                                          refine go_len e15_231 rfl (n := 3) rfl ?_
                                          refine go_icgeY e15_232 (tg := 328) (by decide) (by decide) ?_
                                          refine go_return e15_328 rfl (by decide) (by decide) ?_
                                          exact ⟨rfl, us2, _, _, _, _, _, ⟨fun i hi => by rw [hus2, if_neg (by omega), hus1, if_neg (by omega), hus0, if_pos (by omega)]; rfl, fun i hi hj => by rw [hus2, if_pos (by omega)]; rfl⟩, rfl⟩
                                        · intro c111
                                          exact absurd c111 (by decide)
                                      · intro c111
                                        exact absurd c111 (by decide)
                                    · intro c111
                                      exact absurd c111 (by decide)
                                  · intro c111
                                    exact absurd c111 (by decide)
                                · intro c111
                                  exact absurd c111 (by decide)
                              · intro c111
                                exact absurd c111 (by decide)
                            · intro c111
                              exact absurd c111 (by decide)
                          · intro c111
                            exact absurd c111 (by decide)
                        · intro c111
                          exact absurd c111 (by decide)
                      · intro c111
                        exact absurd c111 (by decide)
                    · intro c111
                      exact absurd c111 (by decide)
                  · intro c111
                    exact absurd c111 (by decide)
                · intro c111
                  exact absurd c111 (by decide)
              · intro c111
                exact absurd c111 (by decide)
            · intro c111
              exact absurd c111 (by decide)
          · intro c111
            exact absurd c111 (by decide)
        · intro c111
          exact absurd c111 (by decide)
      · intro c111
        exact absurd c111 (by decide)
    · intro c111
      exact absurd c111 (by decide)
  · intro c111
    exact absurd c111 (by decide)
set_option maxRecDepth 65536 in
set_option maxHeartbeats 4000000 in
theorem c_ht2 {l : Launch} {Z : State} {a0 : Array Value} {b : Nat} (hw : ∀ d ∈ tables_1, d.before a0 Z = true) {c0 : GCell} {c1 : GCell} {c2 : GCell} {c3 : GCell} {c4 : GCell} {c5 : GCell} {c6 : GCell} {c7 : GCell} {c8 : GCell} {c9 : GCell} {c10 : GCell} {c11 : GCell} {c12 : GCell} {c13 : GCell} {c14 : GCell} {c15 : GCell} :
    Met l Z a0 b (⟨"com/example/deltaweave/deltaweave/format/Bzip2InputStream$HuffmanTable", "<init>", "(Lcom/example/deltaweave/deltaweave/format/Bzip2InputStream;[I)V"⟩ : MethodName) prog_15_method_1_code 13 none ({ frames := 2, cells := 6, slots := 1111, locals := 30 } : Room) [.ref 16, .ref 1, .ref 17] [c0, c1, c2, c3, c4, c5, c6, c7, c8, c9, c10, c11, c12, c13, c14, c15, ob "com/example/deltaweave/deltaweave/format/Bzip2InputStream$HuffmanTable" [("this$0", "Lcom/example/deltaweave/deltaweave/format/Bzip2InputStream;", .null), ("lookup", "[I", .null), ("firstCode", "[I", .null), ("codeCount", "[I", .null), ("firstIndex", "[I", .null), ("symbolsByCode", "[I", .null)], ar .int [.int 2, .int 2, .int 2]] (fun r H' => r = none ∧ ∃ lv l1 l2 l3 l4 l5 : List Value, LkOk lv ∧ H' = [c0, c1, c2, c3, c4, c5, c6, c7, c8, c9, c10, c11, c12, c13, c14, c15, HT 1 (.ref 18) (.ref 19) (.ref 20) (.ref 21) (.ref 22), ar .int [.int 2, .int 2, .int 2], ar .int lv, ar .int l1, ar .int l2, ar .int l3, ar .int l4, ar .int l5]) := by
  refine Met.of_go hw (plainFor_of_name pn_15) (L0 := [.val (.ref 16), .val (.ref 1), .val (.ref 17), .unset, .unset, .unset, .unset, .unset, .unset, .unset, .unset, .unset, .unset]) rfl ?_
  intro p e s m args below meth c C
  refine go_aloadN e15_0 rfl rfl ?_
  refine go_aloadN e15_1 rfl rfl ?_
  refine go_putfield e15_2 (wd 99 rfl) (Or.inr ⟨(wd 100 rfl), rfl, rfl⟩) (wd 90 rfl) pf_17 rfl (j := 0) rfl rfl rfl ?_
  simp only [List.replicate_succ, List.replicate_zero, List.set_cons_zero, List.set_cons_succ, List.length_nil, List.length_cons, Nat.zero_add, Nat.reduceAdd, List.nil_append, List.cons_append]
  refine go_aloadN e15_5 rfl rfl ?_
  refine go_initO (C := C) e15_6 (wd 101 rfl) (wd 13 rfl) (wd (W := tables_1) 14 rfl) rfl (by decide) 0 (by decide) (by decide) ?_
  refine go_aloadN e15_9 rfl rfl ?_
  refine go_sipush e15_10 (x := 1024) rfl ?_
  obtain ⟨zs, hzs⟩ : ∃ zs, List.replicate 1024 (Value.int 0) = zs := ⟨_, rfl⟩
  have hzl : zs.length = 1024 := by rw [← hzs, List.length_replicate]
  refine go_newarray e15_13 (wd 15 rfl) (k := 1024) rfl (vs := zs) hzs (cap := 1024) (by decide) (by decide) (by decide) (by decide) ?_
  simp only [List.replicate_succ, List.replicate_zero, List.set_cons_zero, List.set_cons_succ, List.length_nil, List.length_cons, Nat.zero_add, Nat.reduceAdd, List.nil_append, List.cons_append]
  refine go_putfield e15_15 (wd 102 rfl) (Or.inr ⟨(wd 103 rfl), rfl, rfl⟩) (wd 90 rfl) pf_13 rfl (j := 1) rfl rfl rfl ?_
  simp only [List.replicate_succ, List.replicate_zero, List.set_cons_zero, List.set_cons_succ, List.length_nil, List.length_cons, Nat.zero_add, Nat.reduceAdd, List.nil_append, List.cons_append]
  refine go_aloadN e15_18 rfl rfl ?_
  refine go_bipush e15_19 (x := 21) rfl ?_
  refine go_newarray e15_21 (wd 15 rfl) (k := 21) rfl (vs := [.int 0, .int 0, .int 0, .int 0, .int 0, .int 0, .int 0, .int 0, .int 0, .int 0, .int 0, .int 0, .int 0, .int 0, .int 0, .int 0, .int 0, .int 0, .int 0, .int 0, .int 0]) rfl (cap := 21) (by decide) (by decide) (by decide) (by decide) ?_
  simp only [List.replicate_succ, List.replicate_zero, List.set_cons_zero, List.set_cons_succ, List.length_nil, List.length_cons, Nat.zero_add, Nat.reduceAdd, List.nil_append, List.cons_append]
  refine go_putfield e15_23 (wd 104 rfl) (Or.inr ⟨(wd 105 rfl), rfl, rfl⟩) (wd 90 rfl) pf_13 rfl (j := 2) rfl rfl rfl ?_
  simp only [List.replicate_succ, List.replicate_zero, List.set_cons_zero, List.set_cons_succ, List.length_nil, List.length_cons, Nat.zero_add, Nat.reduceAdd, List.nil_append, List.cons_append]
  refine go_aloadN e15_26 rfl rfl ?_
  refine go_bipush e15_27 (x := 21) rfl ?_
  refine go_newarray e15_29 (wd 15 rfl) (k := 21) rfl (vs := [.int 0, .int 0, .int 0, .int 0, .int 0, .int 0, .int 0, .int 0, .int 0, .int 0, .int 0, .int 0, .int 0, .int 0, .int 0, .int 0, .int 0, .int 0, .int 0, .int 0, .int 0]) rfl (cap := 21) (by decide) (by decide) (by decide) (by decide) ?_
  simp only [List.replicate_succ, List.replicate_zero, List.set_cons_zero, List.set_cons_succ, List.length_nil, List.length_cons, Nat.zero_add, Nat.reduceAdd, List.nil_append, List.cons_append]
  refine go_putfield e15_31 (wd 106 rfl) (Or.inr ⟨(wd 107 rfl), rfl, rfl⟩) (wd 90 rfl) pf_13 rfl (j := 3) rfl rfl rfl ?_
  simp only [List.replicate_succ, List.replicate_zero, List.set_cons_zero, List.set_cons_succ, List.length_nil, List.length_cons, Nat.zero_add, Nat.reduceAdd, List.nil_append, List.cons_append]
  refine go_aloadN e15_34 rfl rfl ?_
  refine go_bipush e15_35 (x := 21) rfl ?_
  refine go_newarray e15_37 (wd 15 rfl) (k := 21) rfl (vs := [.int 0, .int 0, .int 0, .int 0, .int 0, .int 0, .int 0, .int 0, .int 0, .int 0, .int 0, .int 0, .int 0, .int 0, .int 0, .int 0, .int 0, .int 0, .int 0, .int 0, .int 0]) rfl (cap := 21) (by decide) (by decide) (by decide) (by decide) ?_
  simp only [List.replicate_succ, List.replicate_zero, List.set_cons_zero, List.set_cons_succ, List.length_nil, List.length_cons, Nat.zero_add, Nat.reduceAdd, List.nil_append, List.cons_append]
  refine go_putfield e15_39 (wd 108 rfl) (Or.inr ⟨(wd 109 rfl), rfl, rfl⟩) (wd 90 rfl) pf_13 rfl (j := 4) rfl rfl rfl ?_
  simp only [List.replicate_succ, List.replicate_zero, List.set_cons_zero, List.set_cons_succ, List.length_nil, List.length_cons, Nat.zero_add, Nat.reduceAdd, List.nil_append, List.cons_append]
  refine go_aloadN e15_42 rfl rfl ?_
  refine go_astore_3 e15_43 rfl rfl ?_
  refine go_aloadN e15_44 rfl rfl ?_
  refine go_len e15_45 rfl (n := 3) rfl ?_
  refine go_istore_4 e15_46 rfl ?_
  refine go_iconst e15_48 (x := 0) rfl ?_
  refine go_istore_5 e15_49 rfl ?_
  refine go_iload e15_51 rfl ?_
  refine go_iload e15_53 rfl ?_
  refine go_icgeN e15_55 (tg := 81) (by decide) (by decide) ?_
  refine go_aloadN e15_58 rfl rfl ?_
  refine go_iload e15_59 rfl ?_
  refine go_iaload e15_61 rfl (k := 0) (by decide) rfl ?_
  refine go_istore_6 e15_62 rfl ?_
  refine go_aloadN e15_64 rfl rfl ?_
  refine go_getfield e15_65 (wd 106 rfl) rfl (j := 3) rfl ?_
  refine go_iload e15_68 rfl ?_
  refine go_dup2 e15_70 rfl rfl ?_
  refine go_iaload e15_71 rfl (k := 2) (by decide) rfl ?_
  refine go_iconst e15_72 (x := 1) rfl ?_
  refine go_iadd e15_73 ?_
  refine go_iastore e15_74 rfl (k := 2) (by decide) (Nat.le_of_ble_eq_true rfl) ?_
  simp only [List.replicate_succ, List.replicate_zero, List.set_cons_zero, List.set_cons_succ, List.length_nil, List.length_cons, Nat.zero_add, Nat.reduceAdd, List.nil_append, List.cons_append]
  refine go_iinc_5 e15_75 (z := 1) rfl ?_
  refine go_goto e15_78 (tg := 51) (by decide) ?_
  refine go_iload e15_51 rfl ?_
  refine go_iload e15_53 rfl ?_
  refine go_icgeN e15_55 (tg := 81) (by decide) (by decide) ?_
  refine go_aloadN e15_58 rfl rfl ?_
  refine go_iload e15_59 rfl ?_
  refine go_iaload e15_61 rfl (k := 1) (by decide) rfl ?_
  refine go_istore_6 e15_62 rfl ?_
  refine go_aloadN e15_64 rfl rfl ?_
  refine go_getfield e15_65 (wd 106 rfl) rfl (j := 3) rfl ?_
  refine go_iload e15_68 rfl ?_
  refine go_dup2 e15_70 rfl rfl ?_
  refine go_iaload e15_71 rfl (k := 2) (by decide) rfl ?_
  refine go_iconst e15_72 (x := 1) rfl ?_
  refine go_iadd e15_73 ?_
  refine go_iastore e15_74 rfl (k := 2) (by decide) (Nat.le_of_ble_eq_true rfl) ?_
  simp only [List.replicate_succ, List.replicate_zero, List.set_cons_zero, List.set_cons_succ, List.length_nil, List.length_cons, Nat.zero_add, Nat.reduceAdd, List.nil_append, List.cons_append]
  refine go_iinc_5 e15_75 (z := 1) rfl ?_
  refine go_goto e15_78 (tg := 51) (by decide) ?_
  refine go_iload e15_51 rfl ?_
  refine go_iload e15_53 rfl ?_
  refine go_icgeN e15_55 (tg := 81) (by decide) (by decide) ?_
  refine go_aloadN e15_58 rfl rfl ?_
  refine go_iload e15_59 rfl ?_
  refine go_iaload e15_61 rfl (k := 2) (by decide) rfl ?_
  refine go_istore_6 e15_62 rfl ?_
  refine go_aloadN e15_64 rfl rfl ?_
  refine go_getfield e15_65 (wd 106 rfl) rfl (j := 3) rfl ?_
  refine go_iload e15_68 rfl ?_
  refine go_dup2 e15_70 rfl rfl ?_
  refine go_iaload e15_71 rfl (k := 2) (by decide) rfl ?_
  refine go_iconst e15_72 (x := 1) rfl ?_
  refine go_iadd e15_73 ?_
  refine go_iastore e15_74 rfl (k := 2) (by decide) (Nat.le_of_ble_eq_true rfl) ?_
  simp only [List.replicate_succ, List.replicate_zero, List.set_cons_zero, List.set_cons_succ, List.length_nil, List.length_cons, Nat.zero_add, Nat.reduceAdd, List.nil_append, List.cons_append]
  refine go_iinc_5 e15_75 (z := 1) rfl ?_
  refine go_goto e15_78 (tg := 51) (by decide) ?_
  refine go_iload e15_51 rfl ?_
  refine go_iload e15_53 rfl ?_
  refine go_icgeY e15_55 (tg := 81) (by decide) (by decide) ?_
  refine go_lconst e15_81 (x := 1) rfl ?_
  refine go_lstore_3 e15_82 (Or.inl rfl) rfl ?_
  refine go_iconst e15_83 (x := 1) rfl ?_
  refine go_istore_5 e15_84 rfl ?_
  refine go_iload e15_86 rfl ?_
  refine go_bipush e15_88 (x := 20) rfl ?_
  refine go_icgtN e15_90 (tg := 137) (by decide) (by decide) ?_
  refine go_lloadN e15_93 rfl ?_
  refine go_ldc2 e15_94 (wd 110 rfl) ?_
  refine go_lmul e15_97 ?_
  refine go_aloadN e15_98 rfl rfl ?_
  refine go_getfield e15_99 (wd 106 rfl) rfl (j := 3) rfl ?_
  refine go_iload e15_102 rfl ?_
  refine go_iaload e15_104 rfl (k := 1) (by decide) rfl ?_
  refine go_i2l e15_105 ?_
  refine go_lsub e15_106 ?_
  refine go_lstoreX_3 e15_107 (Or.inr ⟨_, rfl⟩) rfl ?_
  intro lf hlf
  obtain rfl : lf = (2 : Int64) := by rw [hlf]; decide
  refine go_lloadN e15_108 rfl ?_
  refine go_lconst e15_109 (x := 0) rfl ?_
  refine go_lcge e15_110 e15_111 (tg := 131) (by decide) ?_ ?_
  · intro c111
    refine go_iinc_5 e15_131 (z := 1) rfl ?_
    refine go_goto e15_134 (tg := 86) (by decide) ?_
    refine go_iload e15_86 rfl ?_
    refine go_bipush e15_88 (x := 20) rfl ?_
    refine go_icgtN e15_90 (tg := 137) (by decide) (by decide) ?_
    refine go_lloadN e15_93 rfl ?_
    refine go_ldc2 e15_94 (wd 110 rfl) ?_
    refine go_lmul e15_97 ?_
    refine go_aloadN e15_98 rfl rfl ?_
    refine go_getfield e15_99 (wd 106 rfl) rfl (j := 3) rfl ?_
    refine go_iload e15_102 rfl ?_
    refine go_iaload e15_104 rfl (k := 2) (by decide) rfl ?_
    refine go_i2l e15_105 ?_
    refine go_lsub e15_106 ?_
    refine go_lstoreX_3 e15_107 (Or.inr ⟨_, rfl⟩) rfl ?_
    intro lf hlf
    obtain rfl : lf = (1 : Int64) := by rw [hlf]; decide
    refine go_lloadN e15_108 rfl ?_
    refine go_lconst e15_109 (x := 0) rfl ?_
    refine go_lcge e15_110 e15_111 (tg := 131) (by decide) ?_ ?_
    · intro c111
      refine go_iinc_5 e15_131 (z := 1) rfl ?_
      refine go_goto e15_134 (tg := 86) (by decide) ?_
      refine go_iload e15_86 rfl ?_
      refine go_bipush e15_88 (x := 20) rfl ?_
      refine go_icgtN e15_90 (tg := 137) (by decide) (by decide) ?_
      refine go_lloadN e15_93 rfl ?_
      refine go_ldc2 e15_94 (wd 110 rfl) ?_
      refine go_lmul e15_97 ?_
      refine go_aloadN e15_98 rfl rfl ?_
      refine go_getfield e15_99 (wd 106 rfl) rfl (j := 3) rfl ?_
      refine go_iload e15_102 rfl ?_
      refine go_iaload e15_104 rfl (k := 3) (by decide) rfl ?_
      refine go_i2l e15_105 ?_
      refine go_lsub e15_106 ?_
      refine go_lstoreX_3 e15_107 (Or.inr ⟨_, rfl⟩) rfl ?_
      intro lf hlf
      obtain rfl : lf = (2 : Int64) := by rw [hlf]; decide
      refine go_lloadN e15_108 rfl ?_
      refine go_lconst e15_109 (x := 0) rfl ?_
      refine go_lcge e15_110 e15_111 (tg := 131) (by decide) ?_ ?_
      · intro c111
        refine go_iinc_5 e15_131 (z := 1) rfl ?_
        refine go_goto e15_134 (tg := 86) (by decide) ?_
        refine go_iload e15_86 rfl ?_
        refine go_bipush e15_88 (x := 20) rfl ?_
        refine go_icgtN e15_90 (tg := 137) (by decide) (by decide) ?_
        refine go_lloadN e15_93 rfl ?_
        refine go_ldc2 e15_94 (wd 110 rfl) ?_
        refine go_lmul e15_97 ?_
        refine go_aloadN e15_98 rfl rfl ?_
        refine go_getfield e15_99 (wd 106 rfl) rfl (j := 3) rfl ?_
        refine go_iload e15_102 rfl ?_
        refine go_iaload e15_104 rfl (k := 4) (by decide) rfl ?_
        refine go_i2l e15_105 ?_
        refine go_lsub e15_106 ?_
        refine go_lstoreX_3 e15_107 (Or.inr ⟨_, rfl⟩) rfl ?_
        intro lf hlf
        obtain rfl : lf = (4 : Int64) := by rw [hlf]; decide
        refine go_lloadN e15_108 rfl ?_
        refine go_lconst e15_109 (x := 0) rfl ?_
        refine go_lcge e15_110 e15_111 (tg := 131) (by decide) ?_ ?_
        · intro c111
          refine go_iinc_5 e15_131 (z := 1) rfl ?_
          refine go_goto e15_134 (tg := 86) (by decide) ?_
          refine go_iload e15_86 rfl ?_
          refine go_bipush e15_88 (x := 20) rfl ?_
          refine go_icgtN e15_90 (tg := 137) (by decide) (by decide) ?_
          refine go_lloadN e15_93 rfl ?_
          refine go_ldc2 e15_94 (wd 110 rfl) ?_
          refine go_lmul e15_97 ?_
          refine go_aloadN e15_98 rfl rfl ?_
          refine go_getfield e15_99 (wd 106 rfl) rfl (j := 3) rfl ?_
          refine go_iload e15_102 rfl ?_
          refine go_iaload e15_104 rfl (k := 5) (by decide) rfl ?_
          refine go_i2l e15_105 ?_
          refine go_lsub e15_106 ?_
          refine go_lstoreX_3 e15_107 (Or.inr ⟨_, rfl⟩) rfl ?_
          intro lf hlf
          obtain rfl : lf = (8 : Int64) := by rw [hlf]; decide
          refine go_lloadN e15_108 rfl ?_
          refine go_lconst e15_109 (x := 0) rfl ?_
          refine go_lcge e15_110 e15_111 (tg := 131) (by decide) ?_ ?_
          · intro c111
            refine go_iinc_5 e15_131 (z := 1) rfl ?_
            refine go_goto e15_134 (tg := 86) (by decide) ?_
            refine go_iload e15_86 rfl ?_
            refine go_bipush e15_88 (x := 20) rfl ?_
            refine go_icgtN e15_90 (tg := 137) (by decide) (by decide) ?_
            refine go_lloadN e15_93 rfl ?_
            refine go_ldc2 e15_94 (wd 110 rfl) ?_
            refine go_lmul e15_97 ?_
            refine go_aloadN e15_98 rfl rfl ?_
            refine go_getfield e15_99 (wd 106 rfl) rfl (j := 3) rfl ?_
            refine go_iload e15_102 rfl ?_
            refine go_iaload e15_104 rfl (k := 6) (by decide) rfl ?_
            refine go_i2l e15_105 ?_
            refine go_lsub e15_106 ?_
            refine go_lstoreX_3 e15_107 (Or.inr ⟨_, rfl⟩) rfl ?_
            intro lf hlf
            obtain rfl : lf = (16 : Int64) := by rw [hlf]; decide
            refine go_lloadN e15_108 rfl ?_
            refine go_lconst e15_109 (x := 0) rfl ?_
            refine go_lcge e15_110 e15_111 (tg := 131) (by decide) ?_ ?_
            · intro c111
              refine go_iinc_5 e15_131 (z := 1) rfl ?_
              refine go_goto e15_134 (tg := 86) (by decide) ?_
              refine go_iload e15_86 rfl ?_
              refine go_bipush e15_88 (x := 20) rfl ?_
              refine go_icgtN e15_90 (tg := 137) (by decide) (by decide) ?_
              refine go_lloadN e15_93 rfl ?_
              refine go_ldc2 e15_94 (wd 110 rfl) ?_
              refine go_lmul e15_97 ?_
              refine go_aloadN e15_98 rfl rfl ?_
              refine go_getfield e15_99 (wd 106 rfl) rfl (j := 3) rfl ?_
              refine go_iload e15_102 rfl ?_
              refine go_iaload e15_104 rfl (k := 7) (by decide) rfl ?_
              refine go_i2l e15_105 ?_
              refine go_lsub e15_106 ?_
              refine go_lstoreX_3 e15_107 (Or.inr ⟨_, rfl⟩) rfl ?_
              intro lf hlf
              obtain rfl : lf = (32 : Int64) := by rw [hlf]; decide
              refine go_lloadN e15_108 rfl ?_
              refine go_lconst e15_109 (x := 0) rfl ?_
              refine go_lcge e15_110 e15_111 (tg := 131) (by decide) ?_ ?_
              · intro c111
                refine go_iinc_5 e15_131 (z := 1) rfl ?_
                refine go_goto e15_134 (tg := 86) (by decide) ?_
                refine go_iload e15_86 rfl ?_
                refine go_bipush e15_88 (x := 20) rfl ?_
                refine go_icgtN e15_90 (tg := 137) (by decide) (by decide) ?_
                refine go_lloadN e15_93 rfl ?_
                refine go_ldc2 e15_94 (wd 110 rfl) ?_
                refine go_lmul e15_97 ?_
                refine go_aloadN e15_98 rfl rfl ?_
                refine go_getfield e15_99 (wd 106 rfl) rfl (j := 3) rfl ?_
                refine go_iload e15_102 rfl ?_
                refine go_iaload e15_104 rfl (k := 8) (by decide) rfl ?_
                refine go_i2l e15_105 ?_
                refine go_lsub e15_106 ?_
                refine go_lstoreX_3 e15_107 (Or.inr ⟨_, rfl⟩) rfl ?_
                intro lf hlf
                obtain rfl : lf = (64 : Int64) := by rw [hlf]; decide
                refine go_lloadN e15_108 rfl ?_
                refine go_lconst e15_109 (x := 0) rfl ?_
                refine go_lcge e15_110 e15_111 (tg := 131) (by decide) ?_ ?_
                · intro c111
                  refine go_iinc_5 e15_131 (z := 1) rfl ?_
                  refine go_goto e15_134 (tg := 86) (by decide) ?_
                  refine go_iload e15_86 rfl ?_
                  refine go_bipush e15_88 (x := 20) rfl ?_
                  refine go_icgtN e15_90 (tg := 137) (by decide) (by decide) ?_
                  refine go_lloadN e15_93 rfl ?_
                  refine go_ldc2 e15_94 (wd 110 rfl) ?_
                  refine go_lmul e15_97 ?_
                  refine go_aloadN e15_98 rfl rfl ?_
                  refine go_getfield e15_99 (wd 106 rfl) rfl (j := 3) rfl ?_
                  refine go_iload e15_102 rfl ?_
                  refine go_iaload e15_104 rfl (k := 9) (by decide) rfl ?_
                  refine go_i2l e15_105 ?_
                  refine go_lsub e15_106 ?_
                  refine go_lstoreX_3 e15_107 (Or.inr ⟨_, rfl⟩) rfl ?_
                  intro lf hlf
                  obtain rfl : lf = (128 : Int64) := by rw [hlf]; decide
                  refine go_lloadN e15_108 rfl ?_
                  refine go_lconst e15_109 (x := 0) rfl ?_
                  refine go_lcge e15_110 e15_111 (tg := 131) (by decide) ?_ ?_
                  · intro c111
                    refine go_iinc_5 e15_131 (z := 1) rfl ?_
                    refine go_goto e15_134 (tg := 86) (by decide) ?_
                    refine go_iload e15_86 rfl ?_
                    refine go_bipush e15_88 (x := 20) rfl ?_
                    refine go_icgtN e15_90 (tg := 137) (by decide) (by decide) ?_
                    refine go_lloadN e15_93 rfl ?_
                    refine go_ldc2 e15_94 (wd 110 rfl) ?_
                    refine go_lmul e15_97 ?_
                    refine go_aloadN e15_98 rfl rfl ?_
                    refine go_getfield e15_99 (wd 106 rfl) rfl (j := 3) rfl ?_
                    refine go_iload e15_102 rfl ?_
                    refine go_iaload e15_104 rfl (k := 10) (by decide) rfl ?_
                    refine go_i2l e15_105 ?_
                    refine go_lsub e15_106 ?_
                    refine go_lstoreX_3 e15_107 (Or.inr ⟨_, rfl⟩) rfl ?_
                    intro lf hlf
                    obtain rfl : lf = (256 : Int64) := by rw [hlf]; decide
                    refine go_lloadN e15_108 rfl ?_
                    refine go_lconst e15_109 (x := 0) rfl ?_
                    refine go_lcge e15_110 e15_111 (tg := 131) (by decide) ?_ ?_
                    · intro c111
                      refine go_iinc_5 e15_131 (z := 1) rfl ?_
                      refine go_goto e15_134 (tg := 86) (by decide) ?_
                      refine go_iload e15_86 rfl ?_
                      refine go_bipush e15_88 (x := 20) rfl ?_
                      refine go_icgtN e15_90 (tg := 137) (by decide) (by decide) ?_
                      refine go_lloadN e15_93 rfl ?_
                      refine go_ldc2 e15_94 (wd 110 rfl) ?_
                      refine go_lmul e15_97 ?_
                      refine go_aloadN e15_98 rfl rfl ?_
                      refine go_getfield e15_99 (wd 106 rfl) rfl (j := 3) rfl ?_
                      refine go_iload e15_102 rfl ?_
                      refine go_iaload e15_104 rfl (k := 11) (by decide) rfl ?_
                      refine go_i2l e15_105 ?_
                      refine go_lsub e15_106 ?_
                      refine go_lstoreX_3 e15_107 (Or.inr ⟨_, rfl⟩) rfl ?_
                      intro lf hlf
                      obtain rfl : lf = (512 : Int64) := by rw [hlf]; decide
                      refine go_lloadN e15_108 rfl ?_
                      refine go_lconst e15_109 (x := 0) rfl ?_
                      refine go_lcge e15_110 e15_111 (tg := 131) (by decide) ?_ ?_
                      · intro c111
                        refine go_iinc_5 e15_131 (z := 1) rfl ?_
                        refine go_goto e15_134 (tg := 86) (by decide) ?_
                        refine go_iload e15_86 rfl ?_
                        refine go_bipush e15_88 (x := 20) rfl ?_
                        refine go_icgtN e15_90 (tg := 137) (by decide) (by decide) ?_
                        refine go_lloadN e15_93 rfl ?_
                        refine go_ldc2 e15_94 (wd 110 rfl) ?_
                        refine go_lmul e15_97 ?_
                        refine go_aloadN e15_98 rfl rfl ?_
                        refine go_getfield e15_99 (wd 106 rfl) rfl (j := 3) rfl ?_
                        refine go_iload e15_102 rfl ?_
                        refine go_iaload e15_104 rfl (k := 12) (by decide) rfl ?_
                        refine go_i2l e15_105 ?_
                        refine go_lsub e15_106 ?_
                        refine go_lstoreX_3 e15_107 (Or.inr ⟨_, rfl⟩) rfl ?_
                        intro lf hlf
                        obtain rfl : lf = (1024 : Int64) := by rw [hlf]; decide
                        refine go_lloadN e15_108 rfl ?_
                        refine go_lconst e15_109 (x := 0) rfl ?_
                        refine go_lcge e15_110 e15_111 (tg := 131) (by decide) ?_ ?_
                        · intro c111
                          refine go_iinc_5 e15_131 (z := 1) rfl ?_
                          refine go_goto e15_134 (tg := 86) (by decide) ?_
                          refine go_iload e15_86 rfl ?_
                          refine go_bipush e15_88 (x := 20) rfl ?_
                          refine go_icgtN e15_90 (tg := 137) (by decide) (by decide) ?_
                          refine go_lloadN e15_93 rfl ?_
                          refine go_ldc2 e15_94 (wd 110 rfl) ?_
                          refine go_lmul e15_97 ?_
                          refine go_aloadN e15_98 rfl rfl ?_
                          refine go_getfield e15_99 (wd 106 rfl) rfl (j := 3) rfl ?_
                          refine go_iload e15_102 rfl ?_
                          refine go_iaload e15_104 rfl (k := 13) (by decide) rfl ?_
                          refine go_i2l e15_105 ?_
                          refine go_lsub e15_106 ?_
                          refine go_lstoreX_3 e15_107 (Or.inr ⟨_, rfl⟩) rfl ?_
                          intro lf hlf
                          obtain rfl : lf = (2048 : Int64) := by rw [hlf]; decide
                          refine go_lloadN e15_108 rfl ?_
                          refine go_lconst e15_109 (x := 0) rfl ?_
                          refine go_lcge e15_110 e15_111 (tg := 131) (by decide) ?_ ?_
                          · intro c111
                            refine go_iinc_5 e15_131 (z := 1) rfl ?_
                            refine go_goto e15_134 (tg := 86) (by decide) ?_
                            refine go_iload e15_86 rfl ?_
                            refine go_bipush e15_88 (x := 20) rfl ?_
                            refine go_icgtN e15_90 (tg := 137) (by decide) (by decide) ?_
                            refine go_lloadN e15_93 rfl ?_
                            refine go_ldc2 e15_94 (wd 110 rfl) ?_
                            refine go_lmul e15_97 ?_
                            refine go_aloadN e15_98 rfl rfl ?_
                            refine go_getfield e15_99 (wd 106 rfl) rfl (j := 3) rfl ?_
                            refine go_iload e15_102 rfl ?_
                            refine go_iaload e15_104 rfl (k := 14) (by decide) rfl ?_
                            refine go_i2l e15_105 ?_
                            refine go_lsub e15_106 ?_
                            refine go_lstoreX_3 e15_107 (Or.inr ⟨_, rfl⟩) rfl ?_
                            intro lf hlf
                            obtain rfl : lf = (4096 : Int64) := by rw [hlf]; decide
                            refine go_lloadN e15_108 rfl ?_
                            refine go_lconst e15_109 (x := 0) rfl ?_
                            refine go_lcge e15_110 e15_111 (tg := 131) (by decide) ?_ ?_
                            · intro c111
                              refine go_iinc_5 e15_131 (z := 1) rfl ?_
                              refine go_goto e15_134 (tg := 86) (by decide) ?_
                              refine go_iload e15_86 rfl ?_
                              refine go_bipush e15_88 (x := 20) rfl ?_
                              refine go_icgtN e15_90 (tg := 137) (by decide) (by decide) ?_
                              refine go_lloadN e15_93 rfl ?_
                              refine go_ldc2 e15_94 (wd 110 rfl) ?_
                              refine go_lmul e15_97 ?_
                              refine go_aloadN e15_98 rfl rfl ?_
                              refine go_getfield e15_99 (wd 106 rfl) rfl (j := 3) rfl ?_
                              refine go_iload e15_102 rfl ?_
                              refine go_iaload e15_104 rfl (k := 15) (by decide) rfl ?_
                              refine go_i2l e15_105 ?_
                              refine go_lsub e15_106 ?_
                              refine go_lstoreX_3 e15_107 (Or.inr ⟨_, rfl⟩) rfl ?_
                              intro lf hlf
                              obtain rfl : lf = (8192 : Int64) := by rw [hlf]; decide
                              refine go_lloadN e15_108 rfl ?_
                              refine go_lconst e15_109 (x := 0) rfl ?_
                              refine go_lcge e15_110 e15_111 (tg := 131) (by decide) ?_ ?_
                              · intro c111
                                refine go_iinc_5 e15_131 (z := 1) rfl ?_
                                refine go_goto e15_134 (tg := 86) (by decide) ?_
                                refine go_iload e15_86 rfl ?_
                                refine go_bipush e15_88 (x := 20) rfl ?_
                                refine go_icgtN e15_90 (tg := 137) (by decide) (by decide) ?_
                                refine go_lloadN e15_93 rfl ?_
                                refine go_ldc2 e15_94 (wd 110 rfl) ?_
                                refine go_lmul e15_97 ?_
                                refine go_aloadN e15_98 rfl rfl ?_
                                refine go_getfield e15_99 (wd 106 rfl) rfl (j := 3) rfl ?_
                                refine go_iload e15_102 rfl ?_
                                refine go_iaload e15_104 rfl (k := 16) (by decide) rfl ?_
                                refine go_i2l e15_105 ?_
                                refine go_lsub e15_106 ?_
                                refine go_lstoreX_3 e15_107 (Or.inr ⟨_, rfl⟩) rfl ?_
                                intro lf hlf
                                obtain rfl : lf = (16384 : Int64) := by rw [hlf]; decide
                                refine go_lloadN e15_108 rfl ?_
                                refine go_lconst e15_109 (x := 0) rfl ?_
                                refine go_lcge e15_110 e15_111 (tg := 131) (by decide) ?_ ?_
                                · intro c111
                                  refine go_iinc_5 e15_131 (z := 1) rfl ?_
                                  refine go_goto e15_134 (tg := 86) (by decide) ?_
                                  refine go_iload e15_86 rfl ?_
                                  refine go_bipush e15_88 (x := 20) rfl ?_
                                  refine go_icgtN e15_90 (tg := 137) (by decide) (by decide) ?_
                                  refine go_lloadN e15_93 rfl ?_
                                  refine go_ldc2 e15_94 (wd 110 rfl) ?_
                                  refine go_lmul e15_97 ?_
                                  refine go_aloadN e15_98 rfl rfl ?_
                                  refine go_getfield e15_99 (wd 106 rfl) rfl (j := 3) rfl ?_
                                  refine go_iload e15_102 rfl ?_
                                  refine go_iaload e15_104 rfl (k := 17) (by decide) rfl ?_
                                  refine go_i2l e15_105 ?_
                                  refine go_lsub e15_106 ?_
                                  refine go_lstoreX_3 e15_107 (Or.inr ⟨_, rfl⟩) rfl ?_
                                  intro lf hlf
                                  obtain rfl : lf = (32768 : Int64) := by rw [hlf]; decide
                                  refine go_lloadN e15_108 rfl ?_
                                  refine go_lconst e15_109 (x := 0) rfl ?_
                                  refine go_lcge e15_110 e15_111 (tg := 131) (by decide) ?_ ?_
                                  · intro c111
                                    refine go_iinc_5 e15_131 (z := 1) rfl ?_
                                    refine go_goto e15_134 (tg := 86) (by decide) ?_
                                    refine go_iload e15_86 rfl ?_
                                    refine go_bipush e15_88 (x := 20) rfl ?_
                                    refine go_icgtN e15_90 (tg := 137) (by decide) (by decide) ?_
                                    refine go_lloadN e15_93 rfl ?_
                                    refine go_ldc2 e15_94 (wd 110 rfl) ?_
                                    refine go_lmul e15_97 ?_
                                    refine go_aloadN e15_98 rfl rfl ?_
                                    refine go_getfield e15_99 (wd 106 rfl) rfl (j := 3) rfl ?_
                                    refine go_iload e15_102 rfl ?_
                                    refine go_iaload e15_104 rfl (k := 18) (by decide) rfl ?_
                                    refine go_i2l e15_105 ?_
                                    refine go_lsub e15_106 ?_
                                    refine go_lstoreX_3 e15_107 (Or.inr ⟨_, rfl⟩) rfl ?_
                                    intro lf hlf
                                    obtain rfl : lf = (65536 : Int64) := by rw [hlf]; decide
                                    refine go_lloadN e15_108 rfl ?_
                                    refine go_lconst e15_109 (x := 0) rfl ?_
                                    refine go_lcge e15_110 e15_111 (tg := 131) (by decide) ?_ ?_
                                    · intro c111
                                      refine go_iinc_5 e15_131 (z := 1) rfl ?_
                                      refine go_goto e15_134 (tg := 86) (by decide) ?_
                                      refine go_iload e15_86 rfl ?_
                                      refine go_bipush e15_88 (x := 20) rfl ?_
                                      refine go_icgtN e15_90 (tg := 137) (by decide) (by decide) ?_
                                      refine go_lloadN e15_93 rfl ?_
                                      refine go_ldc2 e15_94 (wd 110 rfl) ?_
                                      refine go_lmul e15_97 ?_
                                      refine go_aloadN e15_98 rfl rfl ?_
                                      refine go_getfield e15_99 (wd 106 rfl) rfl (j := 3) rfl ?_
                                      refine go_iload e15_102 rfl ?_
                                      refine go_iaload e15_104 rfl (k := 19) (by decide) rfl ?_
                                      refine go_i2l e15_105 ?_
                                      refine go_lsub e15_106 ?_
                                      refine go_lstoreX_3 e15_107 (Or.inr ⟨_, rfl⟩) rfl ?_
                                      intro lf hlf
                                      obtain rfl : lf = (131072 : Int64) := by rw [hlf]; decide
                                      refine go_lloadN e15_108 rfl ?_
                                      refine go_lconst e15_109 (x := 0) rfl ?_
                                      refine go_lcge e15_110 e15_111 (tg := 131) (by decide) ?_ ?_
                                      · intro c111
                                        refine go_iinc_5 e15_131 (z := 1) rfl ?_
                                        refine go_goto e15_134 (tg := 86) (by decide) ?_
                                        refine go_iload e15_86 rfl ?_
                                        refine go_bipush e15_88 (x := 20) rfl ?_
                                        refine go_icgtN e15_90 (tg := 137) (by decide) (by decide) ?_
                                        refine go_lloadN e15_93 rfl ?_
                                        refine go_ldc2 e15_94 (wd 110 rfl) ?_
                                        refine go_lmul e15_97 ?_
                                        refine go_aloadN e15_98 rfl rfl ?_
                                        refine go_getfield e15_99 (wd 106 rfl) rfl (j := 3) rfl ?_
                                        refine go_iload e15_102 rfl ?_
                                        refine go_iaload e15_104 rfl (k := 20) (by decide) rfl ?_
                                        refine go_i2l e15_105 ?_
                                        refine go_lsub e15_106 ?_
                                        refine go_lstoreX_3 e15_107 (Or.inr ⟨_, rfl⟩) rfl ?_
                                        intro lf hlf
                                        obtain rfl : lf = (262144 : Int64) := by rw [hlf]; decide
                                        refine go_lloadN e15_108 rfl ?_
                                        refine go_lconst e15_109 (x := 0) rfl ?_
                                        refine go_lcge e15_110 e15_111 (tg := 131) (by decide) ?_ ?_
                                        · intro c111
                                          refine go_iinc_5 e15_131 (z := 1) rfl ?_
                                          refine go_goto e15_134 (tg := 86) (by decide) ?_
                                          refine go_iload e15_86 rfl ?_
                                          refine go_bipush e15_88 (x := 20) rfl ?_
                                          refine go_icgtY e15_90 (tg := 137) (by decide) (by decide) ?_
                                          refine go_iconst e15_137 (x := 0) rfl ?_
                                          refine go_istore_5 e15_138 rfl ?_
                                          refine go_iconst e15_140 (x := 0) rfl ?_
                                          refine go_istore_6 e15_141 rfl ?_
                                          refine go_iconst e15_143 (x := 1) rfl ?_
                                          refine go_istore_7 e15_144 rfl ?_
                                          refine go_iload e15_146 rfl ?_
                                          refine go_bipush e15_148 (x := 20) rfl ?_
                                          refine go_icgtN e15_150 (tg := 205) (by decide) (by decide) ?_
                                          refine go_iload e15_153 rfl ?_
                                          refine go_aloadN e15_155 rfl rfl ?_
                                          refine go_getfield e15_156 (wd 106 rfl) rfl (j := 3) rfl ?_
                                          refine go_iload e15_159 rfl ?_
                                          refine go_iconst e15_161 (x := 1) rfl ?_
                                          refine go_isub e15_162 ?_
                                          refine go_iaload e15_163 rfl (k := 0) (by decide) rfl ?_
                                          refine go_iadd e15_164 ?_
                                          refine go_iconst e15_165 (x := 1) rfl ?_
                                          refine go_ishl e15_166 ?_
                                          refine go_istoreX_5 e15_167 rfl ?_
                                          intro cd hcd
                                          obtain rfl : cd = (0 : Int32) := by rw [hcd]; decide
                                          refine go_aloadN e15_169 rfl rfl ?_
                                          refine go_getfield e15_170 (wd 104 rfl) rfl (j := 2) rfl ?_
                                          refine go_iload e15_173 rfl ?_
                                          refine go_iload e15_175 rfl ?_
                                          refine go_iastore e15_177 rfl (k := 1) (by decide) (Nat.le_of_ble_eq_true rfl) ?_
                                          simp only [List.replicate_succ, List.replicate_zero, List.set_cons_zero, List.set_cons_succ, List.length_nil, List.length_cons, Nat.zero_add, Nat.reduceAdd, List.nil_append, List.cons_append]
                                          refine go_aloadN e15_178 rfl rfl ?_
                                          refine go_getfield e15_179 (wd 108 rfl) rfl (j := 4) rfl ?_
                                          refine go_iload e15_182 rfl ?_
                                          refine go_iload e15_184 rfl ?_
                                          refine go_iastore e15_186 rfl (k := 1) (by decide) (Nat.le_of_ble_eq_true rfl) ?_
                                          simp only [List.replicate_succ, List.replicate_zero, List.set_cons_zero, List.set_cons_succ, List.length_nil, List.length_cons, Nat.zero_add, Nat.reduceAdd, List.nil_append, List.cons_append]
                                          refine go_iload e15_187 rfl ?_
                                          refine go_aloadN e15_189 rfl rfl ?_
                                          refine go_getfield e15_190 (wd 106 rfl) rfl (j := 3) rfl ?_
                                          refine go_iload e15_193 rfl ?_
                                          refine go_iaload e15_195 rfl (k := 1) (by decide) rfl ?_
                                          refine go_iadd e15_196 ?_
                                          refine go_istoreX_6 e15_197 rfl ?_
                                          intro ix hix
                                          obtain rfl : ix = (0 : Int32) := by rw [hix]; decide
                                          refine go_iinc_7 e15_199 (z := 1) rfl ?_
                                          refine go_goto e15_202 (tg := 146) (by decide) ?_
                                          refine go_iload e15_146 rfl ?_
                                          refine go_bipush e15_148 (x := 20) rfl ?_
                                          refine go_icgtN e15_150 (tg := 205) (by decide) (by decide) ?_
                                          refine go_iload e15_153 rfl ?_
                                          refine go_aloadN e15_155 rfl rfl ?_
                                          refine go_getfield e15_156 (wd 106 rfl) rfl (j := 3) rfl ?_
                                          refine go_iload e15_159 rfl ?_
                                          refine go_iconst e15_161 (x := 1) rfl ?_
                                          refine go_isub e15_162 ?_
                                          refine go_iaload e15_163 rfl (k := 1) (by decide) rfl ?_
                                          refine go_iadd e15_164 ?_
                                          refine go_iconst e15_165 (x := 1) rfl ?_
                                          refine go_ishl e15_166 ?_
                                          refine go_istoreX_5 e15_167 rfl ?_
                                          intro cd hcd
                                          obtain rfl : cd = (0 : Int32) := by rw [hcd]; decide
                                          refine go_aloadN e15_169 rfl rfl ?_
                                          refine go_getfield e15_170 (wd 104 rfl) rfl (j := 2) rfl ?_
                                          refine go_iload e15_173 rfl ?_
                                          refine go_iload e15_175 rfl ?_
                                          refine go_iastore e15_177 rfl (k := 2) (by decide) (Nat.le_of_ble_eq_true rfl) ?_
                                          simp only [List.replicate_succ, List.replicate_zero, List.set_cons_zero, List.set_cons_succ, List.length_nil, List.length_cons, Nat.zero_add, Nat.reduceAdd, List.nil_append, List.cons_append]
                                          refine go_aloadN e15_178 rfl rfl ?_
                                          refine go_getfield e15_179 (wd 108 rfl) rfl (j := 4) rfl ?_
                                          refine go_iload e15_182 rfl ?_
                                          refine go_iload e15_184 rfl ?_
                                          refine go_iastore e15_186 rfl (k := 2) (by decide) (Nat.le_of_ble_eq_true rfl) ?_
                                          simp only [List.replicate_succ, List.replicate_zero, List.set_cons_zero, List.set_cons_succ, List.length_nil, List.length_cons, Nat.zero_add, Nat.reduceAdd, List.nil_append, List.cons_append]
                                          refine go_iload e15_187 rfl ?_
                                          refine go_aloadN e15_189 rfl rfl ?_
                                          refine go_getfield e15_190 (wd 106 rfl) rfl (j := 3) rfl ?_
                                          refine go_iload e15_193 rfl ?_
                                          refine go_iaload e15_195 rfl (k := 2) (by decide) rfl ?_
                                          refine go_iadd e15_196 ?_
                                          refine go_istoreX_6 e15_197 rfl ?_
                                          intro ix hix
                                          obtain rfl : ix = (3 : Int32) := by rw [hix]; decide
                                          refine go_iinc_7 e15_199 (z := 1) rfl ?_
                                          refine go_goto e15_202 (tg := 146) (by decide) ?_
                                          refine go_iload e15_146 rfl ?_
                                          refine go_bipush e15_148 (x := 20) rfl ?_
                                          refine go_icgtN e15_150 (tg := 205) (by decide) (by decide) ?_
                                          refine go_iload e15_153 rfl ?_
                                          refine go_aloadN e15_155 rfl rfl ?_
                                          refine go_getfield e15_156 (wd 106 rfl) rfl (j := 3) rfl ?_
                                          refine go_iload e15_159 rfl ?_
                                          refine go_iconst e15_161 (x := 1) rfl ?_
                                          refine go_isub e15_162 ?_
                                          refine go_iaload e15_163 rfl (k := 2) (by decide) rfl ?_
                                          refine go_iadd e15_164 ?_
                                          refine go_iconst e15_165 (x := 1) rfl ?_
                                          refine go_ishl e15_166 ?_
                                          refine go_istoreX_5 e15_167 rfl ?_
                                          intro cd hcd
                                          obtain rfl : cd = (6 : Int32) := by rw [hcd]; decide
                                          refine go_aloadN e15_169 rfl rfl ?_
                                          refine go_getfield e15_170 (wd 104 rfl) rfl (j := 2) rfl ?_
                                          refine go_iload e15_173 rfl ?_
                                          refine go_iload e15_175 rfl ?_
                                          refine go_iastore e15_177 rfl (k := 3) (by decide) (Nat.le_of_ble_eq_true rfl) ?_
                                          simp only [List.replicate_succ, List.replicate_zero, List.set_cons_zero, List.set_cons_succ, List.length_nil, List.length_cons, Nat.zero_add, Nat.reduceAdd, List.nil_append, List.cons_append]
                                          refine go_aloadN e15_178 rfl rfl ?_
                                          refine go_getfield e15_179 (wd 108 rfl) rfl (j := 4) rfl ?_
                                          refine go_iload e15_182 rfl ?_
                                          refine go_iload e15_184 rfl ?_
                                          refine go_iastore e15_186 rfl (k := 3) (by decide) (Nat.le_of_ble_eq_true rfl) ?_
                                          simp only [List.replicate_succ, List.replicate_zero, List.set_cons_zero, List.set_cons_succ, List.length_nil, List.length_cons, Nat.zero_add, Nat.reduceAdd, List.nil_append, List.cons_append]
                                          refine go_iload e15_187 rfl ?_
                                          refine go_aloadN e15_189 rfl rfl ?_
                                          refine go_getfield e15_190 (wd 106 rfl) rfl (j := 3) rfl ?_
                                          refine go_iload e15_193 rfl ?_
                                          refine go_iaload e15_195 rfl (k := 3) (by decide) rfl ?_
                                          refine go_iadd e15_196 ?_
                                          refine go_istoreX_6 e15_197 rfl ?_
                                          intro ix hix
                                          obtain rfl : ix = (3 : Int32) := by rw [hix]; decide
                                          refine go_iinc_7 e15_199 (z := 1) rfl ?_
                                          refine go_goto e15_202 (tg := 146) (by decide) ?_
                                          refine go_iload e15_146 rfl ?_
                                          refine go_bipush e15_148 (x := 20) rfl ?_
                                          refine go_icgtN e15_150 (tg := 205) (by decide) (by decide) ?_
                                          refine go_iload e15_153 rfl ?_
                                          refine go_aloadN e15_155 rfl rfl ?_
                                          refine go_getfield e15_156 (wd 106 rfl) rfl (j := 3) rfl ?_
                                          refine go_iload e15_159 rfl ?_
                                          refine go_iconst e15_161 (x := 1) rfl ?_
                                          refine go_isub e15_162 ?_
                                          refine go_iaload e15_163 rfl (k := 3) (by decide) rfl ?_
                                          refine go_iadd e15_164 ?_
                                          refine go_iconst e15_165 (x := 1) rfl ?_
                                          refine go_ishl e15_166 ?_
                                          refine go_istoreX_5 e15_167 rfl ?_
                                          intro cd hcd
                                          obtain rfl : cd = (12 : Int32) := by rw [hcd]; decide
                                          refine go_aloadN e15_169 rfl rfl ?_
                                          refine go_getfield e15_170 (wd 104 rfl) rfl (j := 2) rfl ?_
                                          refine go_iload e15_173 rfl ?_
                                          refine go_iload e15_175 rfl ?_
                                          refine go_iastore e15_177 rfl (k := 4) (by decide) (Nat.le_of_ble_eq_true rfl) ?_
                                          simp only [List.replicate_succ, List.replicate_zero, List.set_cons_zero, List.set_cons_succ, List.length_nil, List.length_cons, Nat.zero_add, Nat.reduceAdd, List.nil_append, List.cons_append]
                                          refine go_aloadN e15_178 rfl rfl ?_
                                          refine go_getfield e15_179 (wd 108 rfl) rfl (j := 4) rfl ?_
                                          refine go_iload e15_182 rfl ?_
                                          refine go_iload e15_184 rfl ?_
                                          refine go_iastore e15_186 rfl (k := 4) (by decide) (Nat.le_of_ble_eq_true rfl) ?_
                                          simp only [List.replicate_succ, List.replicate_zero, List.set_cons_zero, List.set_cons_succ, List.length_nil, List.length_cons, Nat.zero_add, Nat.reduceAdd, List.nil_append, List.cons_append]
                                          refine go_iload e15_187 rfl ?_
                                          refine go_aloadN e15_189 rfl rfl ?_
                                          refine go_getfield e15_190 (wd 106 rfl) rfl (j := 3) rfl ?_
                                          refine go_iload e15_193 rfl ?_
                                          refine go_iaload e15_195 rfl (k := 4) (by decide) rfl ?_
                                          refine go_iadd e15_196 ?_
                                          refine go_istoreX_6 e15_197 rfl ?_
                                          intro ix hix
                                          obtain rfl : ix = (3 : Int32) := by rw [hix]; decide
                                          refine go_iinc_7 e15_199 (z := 1) rfl ?_
                                          refine go_goto e15_202 (tg := 146) (by decide) ?_
                                          refine go_iload e15_146 rfl ?_
                                          refine go_bipush e15_148 (x := 20) rfl ?_
                                          refine go_icgtN e15_150 (tg := 205) (by decide) (by decide) ?_
                                          refine go_iload e15_153 rfl ?_
                                          refine go_aloadN e15_155 rfl rfl ?_
                                          refine go_getfield e15_156 (wd 106 rfl) rfl (j := 3) rfl ?_
                                          refine go_iload e15_159 rfl ?_
                                          refine go_iconst e15_161 (x := 1) rfl ?_
                                          refine go_isub e15_162 ?_
                                          refine go_iaload e15_163 rfl (k := 4) (by decide) rfl ?_
                                          refine go_iadd e15_164 ?_
                                          refine go_iconst e15_165 (x := 1) rfl ?_
                                          refine go_ishl e15_166 ?_
                                          refine go_istoreX_5 e15_167 rfl ?_
                                          intro cd hcd
                                          obtain rfl : cd = (24 : Int32) := by rw [hcd]; decide
                                          refine go_aloadN e15_169 rfl rfl ?_
                                          refine go_getfield e15_170 (wd 104 rfl) rfl (j := 2) rfl ?_
                                          refine go_iload e15_173 rfl ?_
                                          refine go_iload e15_175 rfl ?_
                                          refine go_iastore e15_177 rfl (k := 5) (by decide) (Nat.le_of_ble_eq_true rfl) ?_
                                          simp only [List.replicate_succ, List.replicate_zero, List.set_cons_zero, List.set_cons_succ, List.length_nil, List.length_cons, Nat.zero_add, Nat.reduceAdd, List.nil_append, List.cons_append]
                                          refine go_aloadN e15_178 rfl rfl ?_
                                          refine go_getfield e15_179 (wd 108 rfl) rfl (j := 4) rfl ?_
                                          refine go_iload e15_182 rfl ?_
                                          refine go_iload e15_184 rfl ?_
                                          refine go_iastore e15_186 rfl (k := 5) (by decide) (Nat.le_of_ble_eq_true rfl) ?_
                                          simp only [List.replicate_succ, List.replicate_zero, List.set_cons_zero, List.set_cons_succ, List.length_nil, List.length_cons, Nat.zero_add, Nat.reduceAdd, List.nil_append, List.cons_append]
                                          refine go_iload e15_187 rfl ?_
                                          refine go_aloadN e15_189 rfl rfl ?_
                                          refine go_getfield e15_190 (wd 106 rfl) rfl (j := 3) rfl ?_
                                          refine go_iload e15_193 rfl ?_
                                          refine go_iaload e15_195 rfl (k := 5) (by decide) rfl ?_
                                          refine go_iadd e15_196 ?_
                                          refine go_istoreX_6 e15_197 rfl ?_
                                          intro ix hix
                                          obtain rfl : ix = (3 : Int32) := by rw [hix]; decide
                                          refine go_iinc_7 e15_199 (z := 1) rfl ?_
                                          refine go_goto e15_202 (tg := 146) (by decide) ?_
                                          refine go_iload e15_146 rfl ?_
                                          refine go_bipush e15_148 (x := 20) rfl ?_
                                          refine go_icgtN e15_150 (tg := 205) (by decide) (by decide) ?_
                                          refine go_iload e15_153 rfl ?_
                                          refine go_aloadN e15_155 rfl rfl ?_
                                          refine go_getfield e15_156 (wd 106 rfl) rfl (j := 3) rfl ?_
                                          refine go_iload e15_159 rfl ?_
                                          refine go_iconst e15_161 (x := 1) rfl ?_
                                          refine go_isub e15_162 ?_
                                          refine go_iaload e15_163 rfl (k := 5) (by decide) rfl ?_
                                          refine go_iadd e15_164 ?_
                                          refine go_iconst e15_165 (x := 1) rfl ?_
                                          refine go_ishl e15_166 ?_
                                          refine go_istoreX_5 e15_167 rfl ?_
                                          intro cd hcd
                                          obtain rfl : cd = (48 : Int32) := by rw [hcd]; decide
                                          refine go_aloadN e15_169 rfl rfl ?_
                                          refine go_getfield e15_170 (wd 104 rfl) rfl (j := 2) rfl ?_
                                          refine go_iload e15_173 rfl ?_
                                          refine go_iload e15_175 rfl ?_
                                          refine go_iastore e15_177 rfl (k := 6) (by decide) (Nat.le_of_ble_eq_true rfl) ?_
                                          simp only [List.replicate_succ, List.replicate_zero, List.set_cons_zero, List.set_cons_succ, List.length_nil, List.length_cons, Nat.zero_add, Nat.reduceAdd, List.nil_append, List.cons_append]
                                          refine go_aloadN e15_178 rfl rfl ?_
                                          refine go_getfield e15_179 (wd 108 rfl) rfl (j := 4) rfl ?_
                                          refine go_iload e15_182 rfl ?_
                                          refine go_iload e15_184 rfl ?_
                                          refine go_iastore e15_186 rfl (k := 6) (by decide) (Nat.le_of_ble_eq_true rfl) ?_
                                          simp only [List.replicate_succ, List.replicate_zero, List.set_cons_zero, List.set_cons_succ, List.length_nil, List.length_cons, Nat.zero_add, Nat.reduceAdd, List.nil_append, List.cons_append]
                                          refine go_iload e15_187 rfl ?_
                                          refine go_aloadN e15_189 rfl rfl ?_
                                          refine go_getfield e15_190 (wd 106 rfl) rfl (j := 3) rfl ?_
                                          refine go_iload e15_193 rfl ?_
                                          refine go_iaload e15_195 rfl (k := 6) (by decide) rfl ?_
                                          refine go_iadd e15_196 ?_
                                          refine go_istoreX_6 e15_197 rfl ?_
                                          intro ix hix
                                          obtain rfl : ix = (3 : Int32) := by rw [hix]; decide
                                          refine go_iinc_7 e15_199 (z := 1) rfl ?_
                                          refine go_goto e15_202 (tg := 146) (by decide) ?_
                                          refine go_iload e15_146 rfl ?_
                                          refine go_bipush e15_148 (x := 20) rfl ?_
                                          refine go_icgtN e15_150 (tg := 205) (by decide) (by decide) ?_
                                          refine go_iload e15_153 rfl ?_
                                          refine go_aloadN e15_155 rfl rfl ?_
                                          refine go_getfield e15_156 (wd 106 rfl) rfl (j := 3) rfl ?_
                                          refine go_iload e15_159 rfl ?_
                                          refine go_iconst e15_161 (x := 1) rfl ?_
                                          refine go_isub e15_162 ?_
                                          refine go_iaload e15_163 rfl (k := 6) (by decide) rfl ?_
                                          refine go_iadd e15_164 ?_
                                          refine go_iconst e15_165 (x := 1) rfl ?_
                                          refine go_ishl e15_166 ?_
                                          refine go_istoreX_5 e15_167 rfl ?_
                                          intro cd hcd
                                          obtain rfl : cd = (96 : Int32) := by rw [hcd]; decide
                                          refine go_aloadN e15_169 rfl rfl ?_
                                          refine go_getfield e15_170 (wd 104 rfl) rfl (j := 2) rfl ?_
                                          refine go_iload e15_173 rfl ?_
                                          refine go_iload e15_175 rfl ?_
                                          refine go_iastore e15_177 rfl (k := 7) (by decide) (Nat.le_of_ble_eq_true rfl) ?_
                                          simp only [List.replicate_succ, List.replicate_zero, List.set_cons_zero, List.set_cons_succ, List.length_nil, List.length_cons, Nat.zero_add, Nat.reduceAdd, List.nil_append, List.cons_append]
                                          refine go_aloadN e15_178 rfl rfl ?_
                                          refine go_getfield e15_179 (wd 108 rfl) rfl (j := 4) rfl ?_
                                          refine go_iload e15_182 rfl ?_
                                          refine go_iload e15_184 rfl ?_
                                          refine go_iastore e15_186 rfl (k := 7) (by decide) (Nat.le_of_ble_eq_true rfl) ?_
                                          simp only [List.replicate_succ, List.replicate_zero, List.set_cons_zero, List.set_cons_succ, List.length_nil, List.length_cons, Nat.zero_add, Nat.reduceAdd, List.nil_append, List.cons_append]
                                          refine go_iload e15_187 rfl ?_
                                          refine go_aloadN e15_189 rfl rfl ?_
                                          refine go_getfield e15_190 (wd 106 rfl) rfl (j := 3) rfl ?_
                                          refine go_iload e15_193 rfl ?_
                                          refine go_iaload e15_195 rfl (k := 7) (by decide) rfl ?_
                                          refine go_iadd e15_196 ?_
                                          refine go_istoreX_6 e15_197 rfl ?_
                                          intro ix hix
                                          obtain rfl : ix = (3 : Int32) := by rw [hix]; decide
                                          refine go_iinc_7 e15_199 (z := 1) rfl ?_
                                          refine go_goto e15_202 (tg := 146) (by decide) ?_
                                          refine go_iload e15_146 rfl ?_
                                          refine go_bipush e15_148 (x := 20) rfl ?_
                                          refine go_icgtN e15_150 (tg := 205) (by decide) (by decide) ?_
                                          refine go_iload e15_153 rfl ?_
                                          refine go_aloadN e15_155 rfl rfl ?_
                                          refine go_getfield e15_156 (wd 106 rfl) rfl (j := 3) rfl ?_
                                          refine go_iload e15_159 rfl ?_
                                          refine go_iconst e15_161 (x := 1) rfl ?_
                                          refine go_isub e15_162 ?_
                                          refine go_iaload e15_163 rfl (k := 7) (by decide) rfl ?_
                                          refine go_iadd e15_164 ?_
                                          refine go_iconst e15_165 (x := 1) rfl ?_
                                          refine go_ishl e15_166 ?_
                                          refine go_istoreX_5 e15_167 rfl ?_
                                          intro cd hcd
                                          obtain rfl : cd = (192 : Int32) := by rw [hcd]; decide
                                          refine go_aloadN e15_169 rfl rfl ?_
                                          refine go_getfield e15_170 (wd 104 rfl) rfl (j := 2) rfl ?_
                                          refine go_iload e15_173 rfl ?_
                                          refine go_iload e15_175 rfl ?_
                                          refine go_iastore e15_177 rfl (k := 8) (by decide) (Nat.le_of_ble_eq_true rfl) ?_
                                          simp only [List.replicate_succ, List.replicate_zero, List.set_cons_zero, List.set_cons_succ, List.length_nil, List.length_cons, Nat.zero_add, Nat.reduceAdd, List.nil_append, List.cons_append]
                                          refine go_aloadN e15_178 rfl rfl ?_
                                          refine go_getfield e15_179 (wd 108 rfl) rfl (j := 4) rfl ?_
                                          refine go_iload e15_182 rfl ?_
                                          refine go_iload e15_184 rfl ?_
                                          refine go_iastore e15_186 rfl (k := 8) (by decide) (Nat.le_of_ble_eq_true rfl) ?_
                                          simp only [List.replicate_succ, List.replicate_zero, List.set_cons_zero, List.set_cons_succ, List.length_nil, List.length_cons, Nat.zero_add, Nat.reduceAdd, List.nil_append, List.cons_append]
                                          refine go_iload e15_187 rfl ?_
                                          refine go_aloadN e15_189 rfl rfl ?_
                                          refine go_getfield e15_190 (wd 106 rfl) rfl (j := 3) rfl ?_
                                          refine go_iload e15_193 rfl ?_
                                          refine go_iaload e15_195 rfl (k := 8) (by decide) rfl ?_
                                          refine go_iadd e15_196 ?_
                                          refine go_istoreX_6 e15_197 rfl ?_
                                          intro ix hix
                                          obtain rfl : ix = (3 : Int32) := by rw [hix]; decide
                                          refine go_iinc_7 e15_199 (z := 1) rfl ?_
                                          refine go_goto e15_202 (tg := 146) (by decide) ?_
                                          refine go_iload e15_146 rfl ?_
                                          refine go_bipush e15_148 (x := 20) rfl ?_
                                          refine go_icgtN e15_150 (tg := 205) (by decide) (by decide) ?_
                                          refine go_iload e15_153 rfl ?_
                                          refine go_aloadN e15_155 rfl rfl ?_
                                          refine go_getfield e15_156 (wd 106 rfl) rfl (j := 3) rfl ?_
                                          refine go_iload e15_159 rfl ?_
                                          refine go_iconst e15_161 (x := 1) rfl ?_
                                          refine go_isub e15_162 ?_
                                          refine go_iaload e15_163 rfl (k := 8) (by decide) rfl ?_
                                          refine go_iadd e15_164 ?_
                                          refine go_iconst e15_165 (x := 1) rfl ?_
                                          refine go_ishl e15_166 ?_
                                          refine go_istoreX_5 e15_167 rfl ?_
                                          intro cd hcd
                                          obtain rfl : cd = (384 : Int32) := by rw [hcd]; decide
                                          refine go_aloadN e15_169 rfl rfl ?_
                                          refine go_getfield e15_170 (wd 104 rfl) rfl (j := 2) rfl ?_
                                          refine go_iload e15_173 rfl ?_
                                          refine go_iload e15_175 rfl ?_
                                          refine go_iastore e15_177 rfl (k := 9) (by decide) (Nat.le_of_ble_eq_true rfl) ?_
                                          simp only [List.replicate_succ, List.replicate_zero, List.set_cons_zero, List.set_cons_succ, List.length_nil, List.length_cons, Nat.zero_add, Nat.reduceAdd, List.nil_append, List.cons_append]
                                          refine go_aloadN e15_178 rfl rfl ?_
                                          refine go_getfield e15_179 (wd 108 rfl) rfl (j := 4) rfl ?_
                                          refine go_iload e15_182 rfl ?_
                                          refine go_iload e15_184 rfl ?_
                                          refine go_iastore e15_186 rfl (k := 9) (by decide) (Nat.le_of_ble_eq_true rfl) ?_
                                          simp only [List.replicate_succ, List.replicate_zero, List.set_cons_zero, List.set_cons_succ, List.length_nil, List.length_cons, Nat.zero_add, Nat.reduceAdd, List.nil_append, List.cons_append]
                                          refine go_iload e15_187 rfl ?_
                                          refine go_aloadN e15_189 rfl rfl ?_
                                          refine go_getfield e15_190 (wd 106 rfl) rfl (j := 3) rfl ?_
                                          refine go_iload e15_193 rfl ?_
                                          refine go_iaload e15_195 rfl (k := 9) (by decide) rfl ?_
                                          refine go_iadd e15_196 ?_
                                          refine go_istoreX_6 e15_197 rfl ?_
                                          intro ix hix
                                          obtain rfl : ix = (3 : Int32) := by rw [hix]; decide
                                          refine go_iinc_7 e15_199 (z := 1) rfl ?_
                                          refine go_goto e15_202 (tg := 146) (by decide) ?_
                                          refine go_iload e15_146 rfl ?_
                                          refine go_bipush e15_148 (x := 20) rfl ?_
                                          refine go_icgtN e15_150 (tg := 205) (by decide) (by decide) ?_
                                          refine go_iload e15_153 rfl ?_
                                          refine go_aloadN e15_155 rfl rfl ?_
                                          refine go_getfield e15_156 (wd 106 rfl) rfl (j := 3) rfl ?_
                                          refine go_iload e15_159 rfl ?_
                                          refine go_iconst e15_161 (x := 1) rfl ?_
                                          refine go_isub e15_162 ?_
                                          refine go_iaload e15_163 rfl (k := 9) (by decide) rfl ?_
                                          refine go_iadd e15_164 ?_
                                          refine go_iconst e15_165 (x := 1) rfl ?_
                                          refine go_ishl e15_166 ?_
                                          refine go_istoreX_5 e15_167 rfl ?_
                                          intro cd hcd
                                          obtain rfl : cd = (768 : Int32) := by rw [hcd]; decide
                                          refine go_aloadN e15_169 rfl rfl ?_
                                          refine go_getfield e15_170 (wd 104 rfl) rfl (j := 2) rfl ?_
                                          refine go_iload e15_173 rfl ?_
                                          refine go_iload e15_175 rfl ?_
                                          refine go_iastore e15_177 rfl (k := 10) (by decide) (Nat.le_of_ble_eq_true rfl) ?_
                                          simp only [List.replicate_succ, List.replicate_zero, List.set_cons_zero, List.set_cons_succ, List.length_nil, List.length_cons, Nat.zero_add, Nat.reduceAdd, List.nil_append, List.cons_append]
                                          refine go_aloadN e15_178 rfl rfl ?_
                                          refine go_getfield e15_179 (wd 108 rfl) rfl (j := 4) rfl ?_
                                          refine go_iload e15_182 rfl ?_
                                          refine go_iload e15_184 rfl ?_
                                          refine go_iastore e15_186 rfl (k := 10) (by decide) (Nat.le_of_ble_eq_true rfl) ?_
                                          simp only [List.replicate_succ, List.replicate_zero, List.set_cons_zero, List.set_cons_succ, List.length_nil, List.length_cons, Nat.zero_add, Nat.reduceAdd, List.nil_append, List.cons_append]
                                          refine go_iload e15_187 rfl ?_
                                          refine go_aloadN e15_189 rfl rfl ?_
                                          refine go_getfield e15_190 (wd 106 rfl) rfl (j := 3) rfl ?_
                                          refine go_iload e15_193 rfl ?_
                                          refine go_iaload e15_195 rfl (k := 10) (by decide) rfl ?_
                                          refine go_iadd e15_196 ?_
                                          refine go_istoreX_6 e15_197 rfl ?_
                                          intro ix hix
                                          obtain rfl : ix = (3 : Int32) := by rw [hix]; decide
                                          refine go_iinc_7 e15_199 (z := 1) rfl ?_
                                          refine go_goto e15_202 (tg := 146) (by decide) ?_
                                          refine go_iload e15_146 rfl ?_
                                          refine go_bipush e15_148 (x := 20) rfl ?_
                                          refine go_icgtN e15_150 (tg := 205) (by decide) (by decide) ?_
                                          refine go_iload e15_153 rfl ?_
                                          refine go_aloadN e15_155 rfl rfl ?_
                                          refine go_getfield e15_156 (wd 106 rfl) rfl (j := 3) rfl ?_
                                          refine go_iload e15_159 rfl ?_
                                          refine go_iconst e15_161 (x := 1) rfl ?_
                                          refine go_isub e15_162 ?_
                                          refine go_iaload e15_163 rfl (k := 10) (by decide) rfl ?_
                                          refine go_iadd e15_164 ?_
                                          refine go_iconst e15_165 (x := 1) rfl ?_
                                          refine go_ishl e15_166 ?_
                                          refine go_istoreX_5 e15_167 rfl ?_
                                          intro cd hcd
                                          obtain rfl : cd = (1536 : Int32) := by rw [hcd]; decide
                                          refine go_aloadN e15_169 rfl rfl ?_
                                          refine go_getfield e15_170 (wd 104 rfl) rfl (j := 2) rfl ?_
                                          refine go_iload e15_173 rfl ?_
                                          refine go_iload e15_175 rfl ?_
                                          refine go_iastore e15_177 rfl (k := 11) (by decide) (Nat.le_of_ble_eq_true rfl) ?_
                                          simp only [List.replicate_succ, List.replicate_zero, List.set_cons_zero, List.set_cons_succ, List.length_nil, List.length_cons, Nat.zero_add, Nat.reduceAdd, List.nil_append, List.cons_append]
                                          refine go_aloadN e15_178 rfl rfl ?_
                                          refine go_getfield e15_179 (wd 108 rfl) rfl (j := 4) rfl ?_
                                          refine go_iload e15_182 rfl ?_
                                          refine go_iload e15_184 rfl ?_
                                          refine go_iastore e15_186 rfl (k := 11) (by decide) (Nat.le_of_ble_eq_true rfl) ?_
                                          simp only [List.replicate_succ, List.replicate_zero, List.set_cons_zero, List.set_cons_succ, List.length_nil, List.length_cons, Nat.zero_add, Nat.reduceAdd, List.nil_append, List.cons_append]
                                          refine go_iload e15_187 rfl ?_
                                          refine go_aloadN e15_189 rfl rfl ?_
                                          refine go_getfield e15_190 (wd 106 rfl) rfl (j := 3) rfl ?_
                                          refine go_iload e15_193 rfl ?_
                                          refine go_iaload e15_195 rfl (k := 11) (by decide) rfl ?_
                                          refine go_iadd e15_196 ?_
                                          refine go_istoreX_6 e15_197 rfl ?_
                                          intro ix hix
                                          obtain rfl : ix = (3 : Int32) := by rw [hix]; decide
                                          refine go_iinc_7 e15_199 (z := 1) rfl ?_
                                          refine go_goto e15_202 (tg := 146) (by decide) ?_
                                          refine go_iload e15_146 rfl ?_
                                          refine go_bipush e15_148 (x := 20) rfl ?_
                                          refine go_icgtN e15_150 (tg := 205) (by decide) (by decide) ?_
                                          refine go_iload e15_153 rfl ?_
                                          refine go_aloadN e15_155 rfl rfl ?_
                                          refine go_getfield e15_156 (wd 106 rfl) rfl (j := 3) rfl ?_
                                          refine go_iload e15_159 rfl ?_
                                          refine go_iconst e15_161 (x := 1) rfl ?_
                                          refine go_isub e15_162 ?_
                                          refine go_iaload e15_163 rfl (k := 11) (by decide) rfl ?_
                                          refine go_iadd e15_164 ?_
                                          refine go_iconst e15_165 (x := 1) rfl ?_
                                          refine go_ishl e15_166 ?_
                                          refine go_istoreX_5 e15_167 rfl ?_
                                          intro cd hcd
                                          obtain rfl : cd = (3072 : Int32) := by rw [hcd]; decide
                                          refine go_aloadN e15_169 rfl rfl ?_
                                          refine go_getfield e15_170 (wd 104 rfl) rfl (j := 2) rfl ?_
                                          refine go_iload e15_173 rfl ?_
                                          refine go_iload e15_175 rfl ?_
                                          refine go_iastore e15_177 rfl (k := 12) (by decide) (Nat.le_of_ble_eq_true rfl) ?_
                                          simp only [List.replicate_succ, List.replicate_zero, List.set_cons_zero, List.set_cons_succ, List.length_nil, List.length_cons, Nat.zero_add, Nat.reduceAdd, List.nil_append, List.cons_append]
                                          refine go_aloadN e15_178 rfl rfl ?_
                                          refine go_getfield e15_179 (wd 108 rfl) rfl (j := 4) rfl ?_
                                          refine go_iload e15_182 rfl ?_
                                          refine go_iload e15_184 rfl ?_
                                          refine go_iastore e15_186 rfl (k := 12) (by decide) (Nat.le_of_ble_eq_true rfl) ?_
                                          simp only [List.replicate_succ, List.replicate_zero, List.set_cons_zero, List.set_cons_succ, List.length_nil, List.length_cons, Nat.zero_add, Nat.reduceAdd, List.nil_append, List.cons_append]
                                          refine go_iload e15_187 rfl ?_
                                          refine go_aloadN e15_189 rfl rfl ?_
                                          refine go_getfield e15_190 (wd 106 rfl) rfl (j := 3) rfl ?_
                                          refine go_iload e15_193 rfl ?_
                                          refine go_iaload e15_195 rfl (k := 12) (by decide) rfl ?_
                                          refine go_iadd e15_196 ?_
                                          refine go_istoreX_6 e15_197 rfl ?_
                                          intro ix hix
                                          obtain rfl : ix = (3 : Int32) := by rw [hix]; decide
                                          refine go_iinc_7 e15_199 (z := 1) rfl ?_
                                          refine go_goto e15_202 (tg := 146) (by decide) ?_
                                          refine go_iload e15_146 rfl ?_
                                          refine go_bipush e15_148 (x := 20) rfl ?_
                                          refine go_icgtN e15_150 (tg := 205) (by decide) (by decide) ?_
                                          refine go_iload e15_153 rfl ?_
                                          refine go_aloadN e15_155 rfl rfl ?_
                                          refine go_getfield e15_156 (wd 106 rfl) rfl (j := 3) rfl ?_
                                          refine go_iload e15_159 rfl ?_
                                          refine go_iconst e15_161 (x := 1) rfl ?_
                                          refine go_isub e15_162 ?_
                                          refine go_iaload e15_163 rfl (k := 12) (by decide) rfl ?_
                                          refine go_iadd e15_164 ?_
                                          refine go_iconst e15_165 (x := 1) rfl ?_
                                          refine go_ishl e15_166 ?_
                                          refine go_istoreX_5 e15_167 rfl ?_
                                          intro cd hcd
                                          obtain rfl : cd = (6144 : Int32) := by rw [hcd]; decide
                                          refine go_aloadN e15_169 rfl rfl ?_
                                          refine go_getfield e15_170 (wd 104 rfl) rfl (j := 2) rfl ?_
                                          refine go_iload e15_173 rfl ?_
                                          refine go_iload e15_175 rfl ?_
                                          refine go_iastore e15_177 rfl (k := 13) (by decide) (Nat.le_of_ble_eq_true rfl) ?_
                                          simp only [List.replicate_succ, List.replicate_zero, List.set_cons_zero, List.set_cons_succ, List.length_nil, List.length_cons, Nat.zero_add, Nat.reduceAdd, List.nil_append, List.cons_append]
                                          refine go_aloadN e15_178 rfl rfl ?_
                                          refine go_getfield e15_179 (wd 108 rfl) rfl (j := 4) rfl ?_
                                          refine go_iload e15_182 rfl ?_
                                          refine go_iload e15_184 rfl ?_
                                          refine go_iastore e15_186 rfl (k := 13) (by decide) (Nat.le_of_ble_eq_true rfl) ?_
                                          simp only [List.replicate_succ, List.replicate_zero, List.set_cons_zero, List.set_cons_succ, List.length_nil, List.length_cons, Nat.zero_add, Nat.reduceAdd, List.nil_append, List.cons_append]
                                          refine go_iload e15_187 rfl ?_
                                          refine go_aloadN e15_189 rfl rfl ?_
                                          refine go_getfield e15_190 (wd 106 rfl) rfl (j := 3) rfl ?_
                                          refine go_iload e15_193 rfl ?_
                                          refine go_iaload e15_195 rfl (k := 13) (by decide) rfl ?_
                                          refine go_iadd e15_196 ?_
                                          refine go_istoreX_6 e15_197 rfl ?_
                                          intro ix hix
                                          obtain rfl : ix = (3 : Int32) := by rw [hix]; decide
                                          refine go_iinc_7 e15_199 (z := 1) rfl ?_
                                          refine go_goto e15_202 (tg := 146) (by decide) ?_
                                          refine go_iload e15_146 rfl ?_
                                          refine go_bipush e15_148 (x := 20) rfl ?_
                                          refine go_icgtN e15_150 (tg := 205) (by decide) (by decide) ?_
                                          refine go_iload e15_153 rfl ?_
                                          refine go_aloadN e15_155 rfl rfl ?_
                                          refine go_getfield e15_156 (wd 106 rfl) rfl (j := 3) rfl ?_
                                          refine go_iload e15_159 rfl ?_
                                          refine go_iconst e15_161 (x := 1) rfl ?_
                                          refine go_isub e15_162 ?_
                                          refine go_iaload e15_163 rfl (k := 13) (by decide) rfl ?_
                                          refine go_iadd e15_164 ?_
                                          refine go_iconst e15_165 (x := 1) rfl ?_
                                          refine go_ishl e15_166 ?_
                                          refine go_istoreX_5 e15_167 rfl ?_
                                          intro cd hcd
                                          obtain rfl : cd = (12288 : Int32) := by rw [hcd]; decide
                                          refine go_aloadN e15_169 rfl rfl ?_
                                          refine go_getfield e15_170 (wd 104 rfl) rfl (j := 2) rfl ?_
                                          refine go_iload e15_173 rfl ?_
                                          refine go_iload e15_175 rfl ?_
                                          refine go_iastore e15_177 rfl (k := 14) (by decide) (Nat.le_of_ble_eq_true rfl) ?_
                                          simp only [List.replicate_succ, List.replicate_zero, List.set_cons_zero, List.set_cons_succ, List.length_nil, List.length_cons, Nat.zero_add, Nat.reduceAdd, List.nil_append, List.cons_append]
                                          refine go_aloadN e15_178 rfl rfl ?_
                                          refine go_getfield e15_179 (wd 108 rfl) rfl (j := 4) rfl ?_
                                          refine go_iload e15_182 rfl ?_
                                          refine go_iload e15_184 rfl ?_
                                          refine go_iastore e15_186 rfl (k := 14) (by decide) (Nat.le_of_ble_eq_true rfl) ?_
                                          simp only [List.replicate_succ, List.replicate_zero, List.set_cons_zero, List.set_cons_succ, List.length_nil, List.length_cons, Nat.zero_add, Nat.reduceAdd, List.nil_append, List.cons_append]
                                          refine go_iload e15_187 rfl ?_
                                          refine go_aloadN e15_189 rfl rfl ?_
                                          refine go_getfield e15_190 (wd 106 rfl) rfl (j := 3) rfl ?_
                                          refine go_iload e15_193 rfl ?_
                                          refine go_iaload e15_195 rfl (k := 14) (by decide) rfl ?_
                                          refine go_iadd e15_196 ?_
                                          refine go_istoreX_6 e15_197 rfl ?_
                                          intro ix hix
                                          obtain rfl : ix = (3 : Int32) := by rw [hix]; decide
                                          refine go_iinc_7 e15_199 (z := 1) rfl ?_
                                          refine go_goto e15_202 (tg := 146) (by decide) ?_
                                          refine go_iload e15_146 rfl ?_
                                          refine go_bipush e15_148 (x := 20) rfl ?_
                                          refine go_icgtN e15_150 (tg := 205) (by decide) (by decide) ?_
                                          refine go_iload e15_153 rfl ?_
                                          refine go_aloadN e15_155 rfl rfl ?_
                                          refine go_getfield e15_156 (wd 106 rfl) rfl (j := 3) rfl ?_
                                          refine go_iload e15_159 rfl ?_
                                          refine go_iconst e15_161 (x := 1) rfl ?_
                                          refine go_isub e15_162 ?_
                                          refine go_iaload e15_163 rfl (k := 14) (by decide) rfl ?_
                                          refine go_iadd e15_164 ?_
                                          refine go_iconst e15_165 (x := 1) rfl ?_
                                          refine go_ishl e15_166 ?_
                                          refine go_istoreX_5 e15_167 rfl ?_
                                          intro cd hcd
                                          obtain rfl : cd = (24576 : Int32) := by rw [hcd]; decide
                                          refine go_aloadN e15_169 rfl rfl ?_
                                          refine go_getfield e15_170 (wd 104 rfl) rfl (j := 2) rfl ?_
                                          refine go_iload e15_173 rfl ?_
                                          refine go_iload e15_175 rfl ?_
                                          refine go_iastore e15_177 rfl (k := 15) (by decide) (Nat.le_of_ble_eq_true rfl) ?_
                                          simp only [List.replicate_succ, List.replicate_zero, List.set_cons_zero, List.set_cons_succ, List.length_nil, List.length_cons, Nat.zero_add, Nat.reduceAdd, List.nil_append, List.cons_append]
                                          refine go_aloadN e15_178 rfl rfl ?_
                                          refine go_getfield e15_179 (wd 108 rfl) rfl (j := 4) rfl ?_
                                          refine go_iload e15_182 rfl ?_
                                          refine go_iload e15_184 rfl ?_
                                          refine go_iastore e15_186 rfl (k := 15) (by decide) (Nat.le_of_ble_eq_true rfl) ?_
                                          simp only [List.replicate_succ, List.replicate_zero, List.set_cons_zero, List.set_cons_succ, List.length_nil, List.length_cons, Nat.zero_add, Nat.reduceAdd, List.nil_append, List.cons_append]
                                          refine go_iload e15_187 rfl ?_
                                          refine go_aloadN e15_189 rfl rfl ?_
                                          refine go_getfield e15_190 (wd 106 rfl) rfl (j := 3) rfl ?_
                                          refine go_iload e15_193 rfl ?_
                                          refine go_iaload e15_195 rfl (k := 15) (by decide) rfl ?_
                                          refine go_iadd e15_196 ?_
                                          refine go_istoreX_6 e15_197 rfl ?_
                                          intro ix hix
                                          obtain rfl : ix = (3 : Int32) := by rw [hix]; decide
                                          refine go_iinc_7 e15_199 (z := 1) rfl ?_
                                          refine go_goto e15_202 (tg := 146) (by decide) ?_
                                          refine go_iload e15_146 rfl ?_
                                          refine go_bipush e15_148 (x := 20) rfl ?_
                                          refine go_icgtN e15_150 (tg := 205) (by decide) (by decide) ?_
                                          refine go_iload e15_153 rfl ?_
                                          refine go_aloadN e15_155 rfl rfl ?_
                                          refine go_getfield e15_156 (wd 106 rfl) rfl (j := 3) rfl ?_
                                          refine go_iload e15_159 rfl ?_
                                          refine go_iconst e15_161 (x := 1) rfl ?_
                                          refine go_isub e15_162 ?_
                                          refine go_iaload e15_163 rfl (k := 15) (by decide) rfl ?_
                                          refine go_iadd e15_164 ?_
                                          refine go_iconst e15_165 (x := 1) rfl ?_
                                          refine go_ishl e15_166 ?_
                                          refine go_istoreX_5 e15_167 rfl ?_
                                          intro cd hcd
                                          obtain rfl : cd = (49152 : Int32) := by rw [hcd]; decide
                                          refine go_aloadN e15_169 rfl rfl ?_
                                          refine go_getfield e15_170 (wd 104 rfl) rfl (j := 2) rfl ?_
                                          refine go_iload e15_173 rfl ?_
                                          refine go_iload e15_175 rfl ?_
                                          refine go_iastore e15_177 rfl (k := 16) (by decide) (Nat.le_of_ble_eq_true rfl) ?_
                                          simp only [List.replicate_succ, List.replicate_zero, List.set_cons_zero, List.set_cons_succ, List.length_nil, List.length_cons, Nat.zero_add, Nat.reduceAdd, List.nil_append, List.cons_append]
                                          refine go_aloadN e15_178 rfl rfl ?_
                                          refine go_getfield e15_179 (wd 108 rfl) rfl (j := 4) rfl ?_
                                          refine go_iload e15_182 rfl ?_
                                          refine go_iload e15_184 rfl ?_
                                          refine go_iastore e15_186 rfl (k := 16) (by decide) (Nat.le_of_ble_eq_true rfl) ?_
                                          simp only [List.replicate_succ, List.replicate_zero, List.set_cons_zero, List.set_cons_succ, List.length_nil, List.length_cons, Nat.zero_add, Nat.reduceAdd, List.nil_append, List.cons_append]
                                          refine go_iload e15_187 rfl ?_
                                          refine go_aloadN e15_189 rfl rfl ?_
                                          refine go_getfield e15_190 (wd 106 rfl) rfl (j := 3) rfl ?_
                                          refine go_iload e15_193 rfl ?_
                                          refine go_iaload e15_195 rfl (k := 16) (by decide) rfl ?_
                                          refine go_iadd e15_196 ?_
                                          refine go_istoreX_6 e15_197 rfl ?_
                                          intro ix hix
                                          obtain rfl : ix = (3 : Int32) := by rw [hix]; decide
                                          refine go_iinc_7 e15_199 (z := 1) rfl ?_
                                          refine go_goto e15_202 (tg := 146) (by decide) ?_
                                          refine go_iload e15_146 rfl ?_
                                          refine go_bipush e15_148 (x := 20) rfl ?_
                                          refine go_icgtN e15_150 (tg := 205) (by decide) (by decide) ?_
                                          refine go_iload e15_153 rfl ?_
                                          refine go_aloadN e15_155 rfl rfl ?_
                                          refine go_getfield e15_156 (wd 106 rfl) rfl (j := 3) rfl ?_
                                          refine go_iload e15_159 rfl ?_
                                          refine go_iconst e15_161 (x := 1) rfl ?_
                                          refine go_isub e15_162 ?_
                                          refine go_iaload e15_163 rfl (k := 16) (by decide) rfl ?_
                                          refine go_iadd e15_164 ?_
                                          refine go_iconst e15_165 (x := 1) rfl ?_
                                          refine go_ishl e15_166 ?_
                                          refine go_istoreX_5 e15_167 rfl ?_
                                          intro cd hcd
                                          obtain rfl : cd = (98304 : Int32) := by rw [hcd]; decide
                                          refine go_aloadN e15_169 rfl rfl ?_
                                          refine go_getfield e15_170 (wd 104 rfl) rfl (j := 2) rfl ?_
                                          refine go_iload e15_173 rfl ?_
                                          refine go_iload e15_175 rfl ?_
                                          refine go_iastore e15_177 rfl (k := 17) (by decide) (Nat.le_of_ble_eq_true rfl) ?_
                                          simp only [List.replicate_succ, List.replicate_zero, List.set_cons_zero, List.set_cons_succ, List.length_nil, List.length_cons, Nat.zero_add, Nat.reduceAdd, List.nil_append, List.cons_append]
                                          refine go_aloadN e15_178 rfl rfl ?_
                                          refine go_getfield e15_179 (wd 108 rfl) rfl (j := 4) rfl ?_
                                          refine go_iload e15_182 rfl ?_
                                          refine go_iload e15_184 rfl ?_
                                          refine go_iastore e15_186 rfl (k := 17) (by decide) (Nat.le_of_ble_eq_true rfl) ?_
                                          simp only [List.replicate_succ, List.replicate_zero, List.set_cons_zero, List.set_cons_succ, List.length_nil, List.length_cons, Nat.zero_add, Nat.reduceAdd, List.nil_append, List.cons_append]
                                          refine go_iload e15_187 rfl ?_
                                          refine go_aloadN e15_189 rfl rfl ?_
                                          refine go_getfield e15_190 (wd 106 rfl) rfl (j := 3) rfl ?_
                                          refine go_iload e15_193 rfl ?_
                                          refine go_iaload e15_195 rfl (k := 17) (by decide) rfl ?_
                                          refine go_iadd e15_196 ?_
                                          refine go_istoreX_6 e15_197 rfl ?_
                                          intro ix hix
                                          obtain rfl : ix = (3 : Int32) := by rw [hix]; decide
                                          refine go_iinc_7 e15_199 (z := 1) rfl ?_
                                          refine go_goto e15_202 (tg := 146) (by decide) ?_
                                          refine go_iload e15_146 rfl ?_
                                          refine go_bipush e15_148 (x := 20) rfl ?_
                                          refine go_icgtN e15_150 (tg := 205) (by decide) (by decide) ?_
                                          refine go_iload e15_153 rfl ?_
                                          refine go_aloadN e15_155 rfl rfl ?_
                                          refine go_getfield e15_156 (wd 106 rfl) rfl (j := 3) rfl ?_
                                          refine go_iload e15_159 rfl ?_
                                          refine go_iconst e15_161 (x := 1) rfl ?_
                                          refine go_isub e15_162 ?_
                                          refine go_iaload e15_163 rfl (k := 17) (by decide) rfl ?_
                                          refine go_iadd e15_164 ?_
                                          refine go_iconst e15_165 (x := 1) rfl ?_
                                          refine go_ishl e15_166 ?_
                                          refine go_istoreX_5 e15_167 rfl ?_
                                          intro cd hcd
                                          obtain rfl : cd = (196608 : Int32) := by rw [hcd]; decide
                                          refine go_aloadN e15_169 rfl rfl ?_
                                          refine go_getfield e15_170 (wd 104 rfl) rfl (j := 2) rfl ?_
                                          refine go_iload e15_173 rfl ?_
                                          refine go_iload e15_175 rfl ?_
                                          refine go_iastore e15_177 rfl (k := 18) (by decide) (Nat.le_of_ble_eq_true rfl) ?_
                                          simp only [List.replicate_succ, List.replicate_zero, List.set_cons_zero, List.set_cons_succ, List.length_nil, List.length_cons, Nat.zero_add, Nat.reduceAdd, List.nil_append, List.cons_append]
                                          refine go_aloadN e15_178 rfl rfl ?_
                                          refine go_getfield e15_179 (wd 108 rfl) rfl (j := 4) rfl ?_
                                          refine go_iload e15_182 rfl ?_
                                          refine go_iload e15_184 rfl ?_
                                          refine go_iastore e15_186 rfl (k := 18) (by decide) (Nat.le_of_ble_eq_true rfl) ?_
                                          simp only [List.replicate_succ, List.replicate_zero, List.set_cons_zero, List.set_cons_succ, List.length_nil, List.length_cons, Nat.zero_add, Nat.reduceAdd, List.nil_append, List.cons_append]
                                          refine go_iload e15_187 rfl ?_
                                          refine go_aloadN e15_189 rfl rfl ?_
                                          refine go_getfield e15_190 (wd 106 rfl) rfl (j := 3) rfl ?_
                                          refine go_iload e15_193 rfl ?_
                                          refine go_iaload e15_195 rfl (k := 18) (by decide) rfl ?_
                                          refine go_iadd e15_196 ?_
                                          refine go_istoreX_6 e15_197 rfl ?_
                                          intro ix hix
                                          obtain rfl : ix = (3 : Int32) := by rw [hix]; decide
                                          refine go_iinc_7 e15_199 (z := 1) rfl ?_
                                          refine go_goto e15_202 (tg := 146) (by decide) ?_
                                          refine go_iload e15_146 rfl ?_
                                          refine go_bipush e15_148 (x := 20) rfl ?_
                                          refine go_icgtN e15_150 (tg := 205) (by decide) (by decide) ?_
                                          refine go_iload e15_153 rfl ?_
                                          refine go_aloadN e15_155 rfl rfl ?_
                                          refine go_getfield e15_156 (wd 106 rfl) rfl (j := 3) rfl ?_
                                          refine go_iload e15_159 rfl ?_
                                          refine go_iconst e15_161 (x := 1) rfl ?_
                                          refine go_isub e15_162 ?_
                                          refine go_iaload e15_163 rfl (k := 18) (by decide) rfl ?_
                                          refine go_iadd e15_164 ?_
                                          refine go_iconst e15_165 (x := 1) rfl ?_
                                          refine go_ishl e15_166 ?_
                                          refine go_istoreX_5 e15_167 rfl ?_
                                          intro cd hcd
                                          obtain rfl : cd = (393216 : Int32) := by rw [hcd]; decide
                                          refine go_aloadN e15_169 rfl rfl ?_
                                          refine go_getfield e15_170 (wd 104 rfl) rfl (j := 2) rfl ?_
                                          refine go_iload e15_173 rfl ?_
                                          refine go_iload e15_175 rfl ?_
                                          refine go_iastore e15_177 rfl (k := 19) (by decide) (Nat.le_of_ble_eq_true rfl) ?_
                                          simp only [List.replicate_succ, List.replicate_zero, List.set_cons_zero, List.set_cons_succ, List.length_nil, List.length_cons, Nat.zero_add, Nat.reduceAdd, List.nil_append, List.cons_append]
                                          refine go_aloadN e15_178 rfl rfl ?_
                                          refine go_getfield e15_179 (wd 108 rfl) rfl (j := 4) rfl ?_
                                          refine go_iload e15_182 rfl ?_
                                          refine go_iload e15_184 rfl ?_
                                          refine go_iastore e15_186 rfl (k := 19) (by decide) (Nat.le_of_ble_eq_true rfl) ?_
                                          simp only [List.replicate_succ, List.replicate_zero, List.set_cons_zero, List.set_cons_succ, List.length_nil, List.length_cons, Nat.zero_add, Nat.reduceAdd, List.nil_append, List.cons_append]
                                          refine go_iload e15_187 rfl ?_
                                          refine go_aloadN e15_189 rfl rfl ?_
                                          refine go_getfield e15_190 (wd 106 rfl) rfl (j := 3) rfl ?_
                                          refine go_iload e15_193 rfl ?_
                                          refine go_iaload e15_195 rfl (k := 19) (by decide) rfl ?_
                                          refine go_iadd e15_196 ?_
                                          refine go_istoreX_6 e15_197 rfl ?_
                                          intro ix hix
                                          obtain rfl : ix = (3 : Int32) := by rw [hix]; decide
                                          refine go_iinc_7 e15_199 (z := 1) rfl ?_
                                          refine go_goto e15_202 (tg := 146) (by decide) ?_
                                          refine go_iload e15_146 rfl ?_
                                          refine go_bipush e15_148 (x := 20) rfl ?_
                                          refine go_icgtN e15_150 (tg := 205) (by decide) (by decide) ?_
                                          refine go_iload e15_153 rfl ?_
                                          refine go_aloadN e15_155 rfl rfl ?_
                                          refine go_getfield e15_156 (wd 106 rfl) rfl (j := 3) rfl ?_
                                          refine go_iload e15_159 rfl ?_
                                          refine go_iconst e15_161 (x := 1) rfl ?_
                                          refine go_isub e15_162 ?_
                                          refine go_iaload e15_163 rfl (k := 19) (by decide) rfl ?_
                                          refine go_iadd e15_164 ?_
                                          refine go_iconst e15_165 (x := 1) rfl ?_
                                          refine go_ishl e15_166 ?_
                                          refine go_istoreX_5 e15_167 rfl ?_
                                          intro cd hcd
                                          obtain rfl : cd = (786432 : Int32) := by rw [hcd]; decide
                                          refine go_aloadN e15_169 rfl rfl ?_
                                          refine go_getfield e15_170 (wd 104 rfl) rfl (j := 2) rfl ?_
                                          refine go_iload e15_173 rfl ?_
                                          refine go_iload e15_175 rfl ?_
                                          refine go_iastore e15_177 rfl (k := 20) (by decide) (Nat.le_of_ble_eq_true rfl) ?_
                                          simp only [List.replicate_succ, List.replicate_zero, List.set_cons_zero, List.set_cons_succ, List.length_nil, List.length_cons, Nat.zero_add, Nat.reduceAdd, List.nil_append, List.cons_append]
                                          refine go_aloadN e15_178 rfl rfl ?_
                                          refine go_getfield e15_179 (wd 108 rfl) rfl (j := 4) rfl ?_
                                          refine go_iload e15_182 rfl ?_
                                          refine go_iload e15_184 rfl ?_
                                          refine go_iastore e15_186 rfl (k := 20) (by decide) (Nat.le_of_ble_eq_true rfl) ?_
                                          simp only [List.replicate_succ, List.replicate_zero, List.set_cons_zero, List.set_cons_succ, List.length_nil, List.length_cons, Nat.zero_add, Nat.reduceAdd, List.nil_append, List.cons_append]
                                          refine go_iload e15_187 rfl ?_
                                          refine go_aloadN e15_189 rfl rfl ?_
                                          refine go_getfield e15_190 (wd 106 rfl) rfl (j := 3) rfl ?_
                                          refine go_iload e15_193 rfl ?_
                                          refine go_iaload e15_195 rfl (k := 20) (by decide) rfl ?_
                                          refine go_iadd e15_196 ?_
                                          refine go_istoreX_6 e15_197 rfl ?_
                                          intro ix hix
                                          obtain rfl : ix = (3 : Int32) := by rw [hix]; decide
                                          refine go_iinc_7 e15_199 (z := 1) rfl ?_
                                          refine go_goto e15_202 (tg := 146) (by decide) ?_
                                          refine go_iload e15_146 rfl ?_
                                          refine go_bipush e15_148 (x := 20) rfl ?_
                                          refine go_icgtY e15_150 (tg := 205) (by decide) (by decide) ?_
                                          refine go_aloadN e15_205 rfl rfl ?_
                                          refine go_aloadN e15_206 rfl rfl ?_
                                          refine go_len e15_207 rfl (n := 3) rfl ?_
                                          refine go_newarray e15_208 (wd 15 rfl) (k := 3) rfl (vs := [.int 0, .int 0, .int 0]) rfl (cap := 3) (by decide) (by decide) (by decide) (by decide) ?_
                                          simp only [List.replicate_succ, List.replicate_zero, List.set_cons_zero, List.set_cons_succ, List.length_nil, List.length_cons, Nat.zero_add, Nat.reduceAdd, List.nil_append, List.cons_append]
                                          refine go_putfield e15_210 (wd 111 rfl) (Or.inr ⟨(wd 112 rfl), rfl, rfl⟩) (wd 90 rfl) pf_13 rfl (j := 5) rfl rfl rfl ?_
                                          simp only [List.replicate_succ, List.replicate_zero, List.set_cons_zero, List.set_cons_succ, List.length_nil, List.length_cons, Nat.zero_add, Nat.reduceAdd, List.nil_append, List.cons_append]
                                          refine go_aloadN e15_213 rfl rfl ?_
                                          refine go_getfield e15_214 (wd 108 rfl) rfl (j := 4) rfl ?_
                                          refine go_clone (C := C) e15_217 (wd 113 rfl) (wd 114 rfl) (wd 118 rfl) (wd 116 rfl) (wd 117 rfl) (wd 119 rfl) rfl (own_all rfl) rfl (by decide) 0 (Nat.le_of_eq rfl) (by decide) (cap := 21) (Nat.le_of_ble_eq_true rfl) (by decide) (by decide) ?_
                                          simp only [List.replicate_succ, List.replicate_zero, List.set_cons_zero, List.set_cons_succ, List.length_nil, List.length_cons, Nat.zero_add, Nat.reduceAdd, List.nil_append, List.cons_append]
                                          refine go_castA (C := C) (ty := .int) e15_220 (wd 120 rfl) rfl ?_
                                          refine go_astore_7 e15_223 rfl rfl ?_
                                          refine go_iconst e15_225 (x := 0) rfl ?_
                                          refine go_istore_8 e15_226 rfl ?_
                                          refine go_iload e15_228 rfl ?_
                                          refine go_aloadN e15_230 rfl rfl ?_
                                          refine go_len e15_231 rfl (n := 3) rfl ?_
                                          refine go_icgeN e15_232 (tg := 328) (by decide) (by decide) ?_
                                          refine go_aloadN e15_235 rfl rfl ?_
                                          refine go_iload e15_236 rfl ?_
                                          refine go_iaload e15_238 rfl (k := 0) (by decide) rfl ?_
                                          refine go_istore_9 e15_239 rfl ?_
                                          refine go_aload e15_241 rfl rfl ?_
                                          refine go_iload e15_243 rfl ?_
                                          refine go_dup2 e15_245 rfl rfl ?_
                                          refine go_iaload e15_246 rfl (k := 2) (by decide) rfl ?_
                                          refine go_dupX2 e15_247 rfl rfl rfl ?_
                                          refine go_iconst e15_248 (x := 1) rfl ?_
                                          refine go_iadd e15_249 ?_
                                          refine go_iastore e15_250 rfl (k := 2) (by decide) (Nat.le_of_ble_eq_true rfl) ?_
                                          simp only [List.replicate_succ, List.replicate_zero, List.set_cons_zero, List.set_cons_succ, List.length_nil, List.length_cons, Nat.zero_add, Nat.reduceAdd, List.nil_append, List.cons_append]
                                          refine go_istore_10 e15_251 rfl ?_
                                          refine go_aloadN e15_253 rfl rfl ?_
                                          refine go_getfield e15_254 (wd 111 rfl) rfl (j := 5) rfl ?_
                                          refine go_iload e15_257 rfl ?_
                                          refine go_iload e15_259 rfl ?_
                                          refine go_iastore e15_261 rfl (k := 0) (by decide) (Nat.le_of_ble_eq_true rfl) ?_
                                          simp only [List.replicate_succ, List.replicate_zero, List.set_cons_zero, List.set_cons_succ, List.length_nil, List.length_cons, Nat.zero_add, Nat.reduceAdd, List.nil_append, List.cons_append]
                                          refine go_iload e15_262 rfl ?_
                                          refine go_bipush e15_264 (x := 10) rfl ?_
                                          refine go_icgtN e15_266 (tg := 322) (by decide) (by decide) ?_
                                          refine go_bipush e15_269 (x := 10) rfl ?_
                                          refine go_iload e15_271 rfl ?_
                                          refine go_isub e15_273 ?_
                                          refine go_istore_11 e15_274 rfl ?_
                                          refine go_aloadN e15_276 rfl rfl ?_
                                          refine go_getfield e15_277 (wd 104 rfl) rfl (j := 2) rfl ?_
                                          refine go_iload e15_280 rfl ?_
                                          refine go_iaload e15_282 rfl (k := 2) (by decide) rfl ?_
                                          refine go_iload e15_283 rfl ?_
                                          refine go_iadd e15_285 ?_
                                          refine go_aloadN e15_286 rfl rfl ?_
                                          refine go_getfield e15_287 (wd 108 rfl) rfl (j := 4) rfl ?_
                                          refine go_iload e15_290 rfl ?_
                                          refine go_iaload e15_292 rfl (k := 2) (by decide) rfl ?_
                                          refine go_isub e15_293 ?_
                                          refine go_iload e15_294 rfl ?_
                                          refine go_ishl e15_296 ?_
                                          refine go_istore_12 e15_297 rfl ?_
                                          refine go_aloadN e15_299 rfl rfl ?_
                                          refine go_getfield e15_300 (wd 102 rfl) rfl (j := 1) rfl ?_
                                          refine go_iload e15_303 rfl ?_
                                          refine go_iload e15_305 rfl ?_
                                          refine go_iconst e15_307 (x := 1) rfl ?_
                                          refine go_iload e15_308 rfl ?_
                                          refine go_ishl e15_310 ?_
                                          refine go_iadd e15_311 ?_
                                          refine go_iload e15_312 rfl ?_
                                          refine go_iconst e15_314 (x := 5) rfl ?_
                                          refine go_ishl e15_315 ?_
                                          refine go_iload e15_316 rfl ?_
                                          refine go_ior e15_318 ?_
                                          refine go_staticV_4 e15_319 (wd 122 rfl) (wd 123 rfl) (wd 124 rfl) (wd 73 rfl) hy_8 pd_14 rfl (c_afill hw (f := 0) (t := 256) rfl (by decide) (by decide) (by decide) (by omega) (by omega)) rfl 0 rfl (by decide) (by decide) (by decide) (by decide) ?_
                                          rintro _ ⟨us0, hul0, hus0, rfl⟩
                                          try simp only [List.replicate_succ, List.replicate_zero, List.set_cons_zero, List.set_cons_succ, List.length_nil, List.length_cons, Nat.zero_add, Nat.reduceAdd, List.nil_append, List.cons_append]
                                          refine go_iinc_8 e15_322 (z := 1) rfl ?_
                                          refine go_goto e15_325 (tg := 228) (by decide) ?_
                                          refine go_iload e15_228 rfl ?_
                                          refine go_aloadN e15_230 rfl rfl ?_
                                          refine go_len e15_231 rfl (n := 3) rfl ?_
                                          refine go_icgeN e15_232 (tg := 328) (by decide) (by decide) ?_
                                          refine go_aloadN e15_235 rfl rfl ?_
                                          refine go_iload e15_236 rfl ?_
                                          refine go_iaload e15_238 rfl (k := 1) (by decide) rfl ?_
                                          refine go_istore_9 e15_239 rfl ?_
                                          refine go_aload e15_241 rfl rfl ?_
                                          refine go_iload e15_243 rfl ?_
                                          refine go_dup2 e15_245 rfl rfl ?_
                                          refine go_iaload e15_246 rfl (k := 2) (by decide) rfl ?_
                                          refine go_dupX2 e15_247 rfl rfl rfl ?_
                                          refine go_iconst e15_248 (x := 1) rfl ?_
                                          refine go_iadd e15_249 ?_
                                          refine go_iastore e15_250 rfl (k := 2) (by decide) (Nat.le_of_ble_eq_true rfl) ?_
                                          simp only [List.replicate_succ, List.replicate_zero, List.set_cons_zero, List.set_cons_succ, List.length_nil, List.length_cons, Nat.zero_add, Nat.reduceAdd, List.nil_append, List.cons_append]
                                          refine go_istore_10 e15_251 rfl ?_
                                          refine go_aloadN e15_253 rfl rfl ?_
                                          refine go_getfield e15_254 (wd 111 rfl) rfl (j := 5) rfl ?_
                                          refine go_iload e15_257 rfl ?_
                                          refine go_iload e15_259 rfl ?_
                                          refine go_iastore e15_261 rfl (k := 1) (by decide) (Nat.le_of_ble_eq_true rfl) ?_
                                          simp only [List.replicate_succ, List.replicate_zero, List.set_cons_zero, List.set_cons_succ, List.length_nil, List.length_cons, Nat.zero_add, Nat.reduceAdd, List.nil_append, List.cons_append]
                                          refine go_iload e15_262 rfl ?_
                                          refine go_bipush e15_264 (x := 10) rfl ?_
                                          refine go_icgtN e15_266 (tg := 322) (by decide) (by decide) ?_
                                          refine go_bipush e15_269 (x := 10) rfl ?_
                                          refine go_iload e15_271 rfl ?_
                                          refine go_isub e15_273 ?_
                                          refine go_istore_11 e15_274 rfl ?_
                                          refine go_aloadN e15_276 rfl rfl ?_
                                          refine go_getfield e15_277 (wd 104 rfl) rfl (j := 2) rfl ?_
                                          refine go_iload e15_280 rfl ?_
                                          refine go_iaload e15_282 rfl (k := 2) (by decide) rfl ?_
                                          refine go_iload e15_283 rfl ?_
                                          refine go_iadd e15_285 ?_
                                          refine go_aloadN e15_286 rfl rfl ?_
                                          refine go_getfield e15_287 (wd 108 rfl) rfl (j := 4) rfl ?_
                                          refine go_iload e15_290 rfl ?_
                                          refine go_iaload e15_292 rfl (k := 2) (by decide) rfl ?_
                                          refine go_isub e15_293 ?_
                                          refine go_iload e15_294 rfl ?_
                                          refine go_ishl e15_296 ?_
                                          refine go_istore_12 e15_297 rfl ?_
                                          refine go_aloadN e15_299 rfl rfl ?_
                                          refine go_getfield e15_300 (wd 102 rfl) rfl (j := 1) rfl ?_
                                          refine go_iload e15_303 rfl ?_
                                          refine go_iload e15_305 rfl ?_
                                          refine go_iconst e15_307 (x := 1) rfl ?_
                                          refine go_iload e15_308 rfl ?_
                                          refine go_ishl e15_310 ?_
                                          refine go_iadd e15_311 ?_
                                          refine go_iload e15_312 rfl ?_
                                          refine go_iconst e15_314 (x := 5) rfl ?_
                                          refine go_ishl e15_315 ?_
                                          refine go_iload e15_316 rfl ?_
                                          refine go_ior e15_318 ?_
                                          refine go_staticV_4 e15_319 (wd 122 rfl) (wd 123 rfl) (wd 124 rfl) (wd 73 rfl) hy_8 pd_14 rfl (c_afill hw (f := 256) (t := 512) rfl (by decide) (by decide) (by decide) (by omega) (by omega)) rfl 0 rfl (by decide) (by decide) (by decide) (by decide) ?_
                                          rintro _ ⟨us1, hul1, hus1, rfl⟩
                                          try simp only [List.replicate_succ, List.replicate_zero, List.set_cons_zero, List.set_cons_succ, List.length_nil, List.length_cons, Nat.zero_add, Nat.reduceAdd, List.nil_append, List.cons_append]
                                          refine go_iinc_8 e15_322 (z := 1) rfl ?_
                                          refine go_goto e15_325 (tg := 228) (by decide) ?_
                                          refine go_iload e15_228 rfl ?_
                                          refine go_aloadN e15_230 rfl rfl ?_
                                          refine go_len e15_231 rfl (n := 3) rfl ?_
                                          refine go_icgeN e15_232 (tg := 328) (by decide) (by decide) ?_
                                          refine go_aloadN e15_235 rfl rfl ?_
                                          refine go_iload e15_236 rfl ?_
                                          refine go_iaload e15_238 rfl (k := 2) (by decide) rfl ?_
                                          refine go_istore_9 e15_239 rfl ?_
                                          refine go_aload e15_241 rfl rfl ?_
                                          refine go_iload e15_243 rfl ?_
                                          refine go_dup2 e15_245 rfl rfl ?_
                                          refine go_iaload e15_246 rfl (k := 2) (by decide) rfl ?_
                                          refine go_dupX2 e15_247 rfl rfl rfl ?_
                                          refine go_iconst e15_248 (x := 1) rfl ?_
                                          refine go_iadd e15_249 ?_
                                          refine go_iastore e15_250 rfl (k := 2) (by decide) (Nat.le_of_ble_eq_true rfl) ?_
                                          simp only [List.replicate_succ, List.replicate_zero, List.set_cons_zero, List.set_cons_succ, List.length_nil, List.length_cons, Nat.zero_add, Nat.reduceAdd, List.nil_append, List.cons_append]
                                          refine go_istore_10 e15_251 rfl ?_
                                          refine go_aloadN e15_253 rfl rfl ?_
                                          refine go_getfield e15_254 (wd 111 rfl) rfl (j := 5) rfl ?_
                                          refine go_iload e15_257 rfl ?_
                                          refine go_iload e15_259 rfl ?_
                                          refine go_iastore e15_261 rfl (k := 2) (by decide) (Nat.le_of_ble_eq_true rfl) ?_
                                          simp only [List.replicate_succ, List.replicate_zero, List.set_cons_zero, List.set_cons_succ, List.length_nil, List.length_cons, Nat.zero_add, Nat.reduceAdd, List.nil_append, List.cons_append]
                                          refine go_iload e15_262 rfl ?_
                                          refine go_bipush e15_264 (x := 10) rfl ?_
                                          refine go_icgtN e15_266 (tg := 322) (by decide) (by decide) ?_
                                          refine go_bipush e15_269 (x := 10) rfl ?_
                                          refine go_iload e15_271 rfl ?_
                                          refine go_isub e15_273 ?_
                                          refine go_istore_11 e15_274 rfl ?_
                                          refine go_aloadN e15_276 rfl rfl ?_
                                          refine go_getfield e15_277 (wd 104 rfl) rfl (j := 2) rfl ?_
                                          refine go_iload e15_280 rfl ?_
                                          refine go_iaload e15_282 rfl (k := 2) (by decide) rfl ?_
                                          refine go_iload e15_283 rfl ?_
                                          refine go_iadd e15_285 ?_
                                          refine go_aloadN e15_286 rfl rfl ?_
                                          refine go_getfield e15_287 (wd 108 rfl) rfl (j := 4) rfl ?_
                                          refine go_iload e15_290 rfl ?_
                                          refine go_iaload e15_292 rfl (k := 2) (by decide) rfl ?_
                                          refine go_isub e15_293 ?_
                                          refine go_iload e15_294 rfl ?_
                                          refine go_ishl e15_296 ?_
                                          refine go_istore_12 e15_297 rfl ?_
                                          refine go_aloadN e15_299 rfl rfl ?_
                                          refine go_getfield e15_300 (wd 102 rfl) rfl (j := 1) rfl ?_
                                          refine go_iload e15_303 rfl ?_
                                          refine go_iload e15_305 rfl ?_
                                          refine go_iconst e15_307 (x := 1) rfl ?_
                                          refine go_iload e15_308 rfl ?_
                                          refine go_ishl e15_310 ?_
                                          refine go_iadd e15_311 ?_
                                          refine go_iload e15_312 rfl ?_
                                          refine go_iconst e15_314 (x := 5) rfl ?_
                                          refine go_ishl e15_315 ?_
                                          refine go_iload e15_316 rfl ?_
                                          refine go_ior e15_318 ?_
                                          refine go_staticV_4 e15_319 (wd 122 rfl) (wd 123 rfl) (wd 124 rfl) (wd 73 rfl) hy_8 pd_14 rfl (c_afill hw (f := 512) (t := 768) rfl (by decide) (by decide) (by decide) (by omega) (by omega)) rfl 0 rfl (by decide) (by decide) (by decide) (by decide) ?_
                                          rintro _ ⟨us2, hul2, hus2, rfl⟩
                                          try simp only [List.replicate_succ, List.replicate_zero, List.set_cons_zero, List.set_cons_succ, List.length_nil, List.length_cons, Nat.zero_add, Nat.reduceAdd, List.nil_append, List.cons_append]
                                          refine go_iinc_8 e15_322 (z := 1) rfl ?_
                                          refine go_goto e15_325 (tg := 228) (by decide) ?_
                                          refine go_iload e15_228 rfl ?_
                                          refine go_aloadN e15_230 rfl rfl ?_
                                          refine go_len e15_231 rfl (n := 3) rfl ?_
                                          refine go_icgeY e15_232 (tg := 328) (by decide) (by decide) ?_
                                          refine go_return e15_328 rfl (by decide) (by decide) ?_
                                          exact ⟨rfl, us2, _, _, _, _, _, ⟨fun i hi => by rw [hus2, if_neg (by omega), hus1, if_neg (by omega), hus0, if_pos (by omega)]; rfl, fun i hi hj => by rw [hus2, if_pos (by omega)]; rfl⟩, rfl⟩
                                        · intro c111
                                          exact absurd c111 (by decide)
                                      · intro c111
                                        exact absurd c111 (by decide)
                                    · intro c111
                                      exact absurd c111 (by decide)
                                  · intro c111
                                    exact absurd c111 (by decide)
                                · intro c111
                                  exact absurd c111 (by decide)
                              · intro c111
                                exact absurd c111 (by decide)
                            · intro c111
                              exact absurd c111 (by decide)
                          · intro c111
                            exact absurd c111 (by decide)
                        · intro c111
                          exact absurd c111 (by decide)
                      · intro c111
                        exact absurd c111 (by decide)
                    · intro c111
                      exact absurd c111 (by decide)
                  · intro c111
                    exact absurd c111 (by decide)
                · intro c111
                  exact absurd c111 (by decide)
              · intro c111
                exact absurd c111 (by decide)
            · intro c111
              exact absurd c111 (by decide)
          · intro c111
            exact absurd c111 (by decide)
        · intro c111
          exact absurd c111 (by decide)
      · intro c111
        exact absurd c111 (by decide)
    · intro c111
      exact absurd c111 (by decide)
  · intro c111
    exact absurd c111 (by decide)
set_option maxRecDepth 65536 in
set_option maxHeartbeats 4000000 in
theorem c_rb {l : Launch} {Z : State} {a0 : Array Value} {b : Nat} (hw : ∀ d ∈ tables_1, d.before a0 Z = true) {o N t : Nat} {bb : Int64} {vs : List Value} {y0 y1 y2 : Int32} {lim sc bn bcr po br cr lb eb rp : Int32} (hN : N = o + 26 + t) (ho : o ≤ 100) (ht : t ≤ 100) (hx : Nx vs (o + 18) [0, 64, 0, 32, 0, 33, 1, 2]) (hy : Nx vs (o + 26) [y0, y1, y2]) (hv : bb.toBitVec.toNat % 2 ^ 7 = 64) (hlim : 100000 ≤ lim.toInt) :
    Met l Z a0 b (⟨"com/example/deltaweave/deltaweave/format/Bzip2InputStream", "readBlock", "()V"⟩ : MethodName) prog_14_method_8_code 17 none ({ frames := 3, cells := 23, slots := 68039, locals := 57 } : Room) [.ref 1] [ar .byte vs, Bz (.ref 2) 0 (o + 18) N 7 bb (Tl lim sc 0 bn bcr 0 po br cr lb eb rp), ar .int []] (fun r H' => r = none ∧ ∃ (us : List Value) (j2 k2 : Nat) (b2 : Int64), H'[1]? = some (Bz (.ref 25) 0 j2 N k2 b2 (Tl lim sc 0 bn bcr 1 po br cr lb eb rp)) ∧ H'[25]? = some (ar .int us) ∧ us.length = 65536 ∧ us[0]? = some (.int 0)) := by
  refine Met.of_go hw (plainFor_of_name pn_2) (L0 := [.val (.ref 1), .unset, .unset, .unset, .unset, .unset, .unset, .unset, .unset, .unset, .unset, .unset, .unset, .unset, .unset, .unset, .unset]) rfl ?_
  intro p e s m args below meth c C
  refine go_aloadN e9_0 rfl rfl ?_
  refine go_private_0 e9_1 (Or.inl (wd 66 rfl)) (wd 68 rfl) (wd 2 rfl) (wd 67 rfl) (wd 69 rfl) (wd 3 rfl) hy_3 pd_18 rfl (c_bv hw (by omega) ⟨hx.1, hx.2.1, hx.2.2.1, hx.2.2.2.1, trivial⟩ hv (by omega)) rfl rfl 0 rfl (by decide) (by decide) (by decide) (by decide) ?_
  rintro _ _ ⟨zs, b1, rfl, hb1, rfl⟩
  try simp only [List.replicate_succ, List.replicate_zero, List.set_cons_zero, List.set_cons_succ, List.length_nil, List.length_cons, Nat.zero_add, Nat.reduceAdd, List.nil_append, List.cons_append]
  refine go_astore_1 e9_4 rfl rfl ?_
  refine go_aloadN e9_5 rfl rfl ?_
  refine go_len e9_6 rfl (n := 1) rfl ?_
  refine go_iconst e9_7 (x := 2) rfl ?_
  refine go_iadd e9_8 ?_
  refine go_istore_2 e9_9 rfl ?_
  refine go_aloadN e9_10 rfl rfl ?_
  refine go_iconst e9_11 (x := 3) rfl ?_
  refine go_private_1 e9_12 (Or.inl (wd 24 rfl)) (wd 26 rfl) (wd 2 rfl) (wd 25 rfl) (wd 27 rfl) (wd 3 rfl) hy_3 pd_16 rfl (c_bits hw (j := o + 22) (n := 3) (k := 7) (k2 := 4) (xs := []) (R := 2) (V2 := 0) (j2 := (o + 22)) rfl rfl trivial hb1 (fun i hi => absurd hi (Nat.not_lt_zero _)) (by simp only [List.length_cons, List.length_nil]; omega) rfl (by decide) (by omega) (by decide) (by decide) (by decide) (by decide) (by decide) (by decide) rfl) rfl rfl 0 rfl (by decide) (by decide) (by decide) (by decide) ?_
  rintro _ _ ⟨b2, rfl, hb2, rfl⟩
  try simp only [List.replicate_succ, List.replicate_zero, List.set_cons_zero, List.set_cons_succ, List.length_nil, List.length_cons, Nat.zero_add, Nat.reduceAdd, List.nil_append, List.cons_append]
  refine go_istore_3 e9_15 rfl ?_
  refine go_iloadN e9_16 rfl ?_
  refine go_iconst e9_17 (x := 2) rfl ?_
  refine go_icltN e9_18 (tg := 27) (by decide) (by decide) ?_
  refine go_iloadN e9_21 rfl ?_
  refine go_bipush e9_22 (x := 6) rfl ?_
  refine go_icleY e9_24 (tg := 45) (by decide) (by decide) ?_
  refine go_aloadN e9_45 rfl rfl ?_
  refine go_iloadN e9_46 rfl ?_
  refine go_private_1 e9_47 (Or.inl (wd 83 rfl)) (wd 85 rfl) (wd 2 rfl) (wd 84 rfl) (wd 86 rfl) (wd 3 rfl) hy_3 pd_19 rfl (c_sel hw (by omega) ⟨hx.2.2.2.2.1, hx.2.2.2.2.2.1, trivial⟩ hb2 (by omega)) rfl rfl 0 rfl (by decide) (by decide) (by decide) (by decide) ?_
  rintro _ _ ⟨us, b3, rfl, hb3, rfl⟩
  try simp only [List.replicate_succ, List.replicate_zero, List.set_cons_zero, List.set_cons_succ, List.length_nil, List.length_cons, Nat.zero_add, Nat.reduceAdd, List.nil_append, List.cons_append]
  refine go_astore_4 e9_50 rfl rfl ?_
  refine go_iloadN e9_52 rfl ?_
  refine go_anewarray e9_53 (wd 88 rfl) (wd 89 rfl) (k := 2) rfl (vs := [.null, .null]) rfl (by decide) (by decide) (by decide) ?_
  simp only [List.replicate_succ, List.replicate_zero, List.set_cons_zero, List.set_cons_succ, List.length_nil, List.length_cons, Nat.zero_add, Nat.reduceAdd, List.nil_append, List.cons_append]
  refine go_astore_5 e9_56 rfl rfl ?_
  refine go_iconst e9_58 (x := 0) rfl ?_
  refine go_istore_6 e9_59 rfl ?_
  refine go_iload e9_61 rfl ?_
  refine go_iloadN e9_63 rfl ?_
  refine go_icgeN e9_64 (tg := 91) (by decide) (by decide) ?_
  refine go_aload e9_67 rfl rfl ?_
  refine go_iload e9_69 rfl ?_
  refine go_new e9_71 (wd 88 rfl) (wd 90 rfl) (wd 91 rfl) (lay_20 hw) nd_21 (by decide) (by decide) ?_
  simp only [List.replicate_succ, List.replicate_zero, List.set_cons_zero, List.set_cons_succ, List.length_nil, List.length_cons, Nat.zero_add, Nat.reduceAdd, List.nil_append, List.cons_append]
  refine go_dup e9_74 rfl ?_
  refine go_aloadN e9_75 rfl rfl ?_
  refine go_aloadN e9_76 rfl rfl ?_
  refine go_iloadN e9_77 rfl ?_
  refine go_private_1 e9_78 (Or.inl (wd 92 rfl)) (wd 94 rfl) (wd 2 rfl) (wd 93 rfl) (wd 95 rfl) (wd 3 rfl) hy_3 pd_22 rfl (c_cl1 hw (by omega) ⟨hx.2.2.2.2.2.2.1, trivial⟩ hb3 (by omega)) rfl rfl 5 rfl (by decide) (by decide) (by decide) (by decide) ?_
  rintro _ _ ⟨b4, rfl, hb4, rfl⟩
  try simp only [List.replicate_succ, List.replicate_zero, List.set_cons_zero, List.set_cons_succ, List.length_nil, List.length_cons, Nat.zero_add, Nat.reduceAdd, List.nil_append, List.cons_append]
  refine go_specialV_2 rfl e9_81 (wd 96 rfl) (wd 97 rfl) (wd 98 rfl) (wd 91 rfl) hy_23 pd_24 rfl (c_ht1 hw) rfl 3 rfl (by decide) (by decide) (by decide) (by decide) ?_
  rintro _ ⟨lv, m01, m02, m03, m04, m05, hlv, rfl⟩
  try simp only [List.replicate_succ, List.replicate_zero, List.set_cons_zero, List.set_cons_succ, List.length_nil, List.length_cons, Nat.zero_add, Nat.reduceAdd, List.nil_append, List.cons_append]
  refine go_aastore e9_84 (wd 89 rfl) rfl rfl (k := 0) rfl (Nat.le_of_ble_eq_true rfl) ?_
  simp only [List.replicate_succ, List.replicate_zero, List.set_cons_zero, List.set_cons_succ, List.length_nil, List.length_cons, Nat.zero_add, Nat.reduceAdd, List.nil_append, List.cons_append]
  refine go_iinc_6 e9_85 (z := 1) rfl ?_
  refine go_goto e9_88 (tg := 61) (by decide) ?_
  refine go_iload e9_61 rfl ?_
  refine go_iloadN e9_63 rfl ?_
  refine go_icgeN e9_64 (tg := 91) (by decide) (by decide) ?_
  refine go_aload e9_67 rfl rfl ?_
  refine go_iload e9_69 rfl ?_
  refine go_new e9_71 (wd 88 rfl) (wd 90 rfl) (wd 91 rfl) (lay_20 hw) nd_21 (by decide) (by decide) ?_
  simp only [List.replicate_succ, List.replicate_zero, List.set_cons_zero, List.set_cons_succ, List.length_nil, List.length_cons, Nat.zero_add, Nat.reduceAdd, List.nil_append, List.cons_append]
  refine go_dup e9_74 rfl ?_
  refine go_aloadN e9_75 rfl rfl ?_
  refine go_aloadN e9_76 rfl rfl ?_
  refine go_iloadN e9_77 rfl ?_
  refine go_private_1 e9_78 (Or.inl (wd 92 rfl)) (wd 94 rfl) (wd 2 rfl) (wd 93 rfl) (wd 95 rfl) (wd 3 rfl) hy_3 pd_22 rfl (c_cl2 hw (by omega) ⟨hx.2.2.2.2.2.2.2.1, trivial⟩ hb4 (by omega)) rfl rfl 5 rfl (by decide) (by decide) (by decide) (by decide) ?_
  rintro _ _ ⟨b5, rfl, hb5, rfl⟩
  try simp only [List.replicate_succ, List.replicate_zero, List.set_cons_zero, List.set_cons_succ, List.length_nil, List.length_cons, Nat.zero_add, Nat.reduceAdd, List.nil_append, List.cons_append]
  refine go_specialV_2 rfl e9_81 (wd 96 rfl) (wd 97 rfl) (wd 98 rfl) (wd 91 rfl) hy_23 pd_24 rfl (c_ht2 hw) rfl 3 rfl (by decide) (by decide) (by decide) (by decide) ?_
  rintro _ ⟨lvB, m11, m12, m13, m14, m15, hlvB, rfl⟩
  try simp only [List.replicate_succ, List.replicate_zero, List.set_cons_zero, List.set_cons_succ, List.length_nil, List.length_cons, Nat.zero_add, Nat.reduceAdd, List.nil_append, List.cons_append]
  refine go_aastore e9_84 (wd 89 rfl) rfl rfl (k := 1) rfl (Nat.le_of_ble_eq_true rfl) ?_
  simp only [List.replicate_succ, List.replicate_zero, List.set_cons_zero, List.set_cons_succ, List.length_nil, List.length_cons, Nat.zero_add, Nat.reduceAdd, List.nil_append, List.cons_append]
  refine go_iinc_6 e9_85 (z := 1) rfl ?_
  refine go_goto e9_88 (tg := 61) (by decide) ?_
  refine go_iload e9_61 rfl ?_
  refine go_iloadN e9_63 rfl ?_
  refine go_icgeY e9_64 (tg := 91) (by decide) (by decide) ?_
  refine go_iloadN e9_91 rfl ?_
  refine go_iconst e9_92 (x := 1) rfl ?_
  refine go_isub e9_93 ?_
  refine go_istore_6 e9_94 rfl ?_
  refine go_aloadN e9_96 rfl rfl ?_
  refine go_len e9_97 rfl (n := 1) rfl ?_
  refine go_newarray e9_98 (wd 15 rfl) (k := 1) rfl (vs := [.int 0]) rfl (cap := 1) (by decide) (by decide) (by decide) (by decide) ?_
  simp only [List.replicate_succ, List.replicate_zero, List.set_cons_zero, List.set_cons_succ, List.length_nil, List.length_cons, Nat.zero_add, Nat.reduceAdd, List.nil_append, List.cons_append]
  refine go_astore_7 e9_100 rfl rfl ?_
  refine go_iconst e9_102 (x := 0) rfl ?_
  refine go_istore_8 e9_103 rfl ?_
  refine go_iload e9_105 rfl ?_
  refine go_aload e9_107 rfl rfl ?_
  refine go_len e9_109 rfl (n := 1) rfl ?_
  refine go_icgeN e9_110 (tg := 126) (by decide) (by decide) ?_
  refine go_aload e9_113 rfl rfl ?_
  refine go_iload e9_115 rfl ?_
  refine go_iload e9_117 rfl ?_
  refine go_iastore e9_119 rfl (k := 0) (by decide) (Nat.le_of_ble_eq_true rfl) ?_
  simp only [List.replicate_succ, List.replicate_zero, List.set_cons_zero, List.set_cons_succ, List.length_nil, List.length_cons, Nat.zero_add, Nat.reduceAdd, List.nil_append, List.cons_append]
  refine go_iinc_8 e9_120 (z := 1) rfl ?_
  refine go_goto e9_123 (tg := 105) (by decide) ?_
  refine go_iload e9_105 rfl ?_
  refine go_aload e9_107 rfl rfl ?_
  refine go_len e9_109 rfl (n := 1) rfl ?_
  refine go_icgeY e9_110 (tg := 126) (by decide) (by decide) ?_
  refine go_iconst e9_126 (x := 0) rfl ?_
  refine go_istore_8 e9_127 rfl ?_
  refine go_iconst e9_129 (x := 0) rfl ?_
  refine go_istore_9 e9_130 rfl ?_
  refine go_iconst e9_132 (x := 1) rfl ?_
  refine go_istore_10 e9_133 rfl ?_
  refine go_iconst e9_135 (x := (-1)) rfl ?_
  refine go_istore_11 e9_136 rfl ?_
  refine go_null e9_138 ?_
  refine go_astore_12 e9_139 rfl rfl ?_
  refine go_iconst e9_141 (x := 0) rfl ?_
  refine go_istore_13 e9_142 rfl ?_
  refine go_iload e9_144 rfl ?_
  refine go_bipush e9_146 (x := 50) rfl ?_
  refine go_irem e9_148 (by decide) ?_
  refine go_ifneN e9_149 (tg := 190) (by decide) (by decide) ?_
  refine go_iinc_11 e9_152 (z := 1) rfl ?_
  refine go_iload e9_155 rfl ?_
  refine go_aload e9_157 rfl rfl ?_
  refine go_len e9_159 rfl (n := 1) rfl ?_
  refine go_icneY e9_160 (tg := 180) (by decide) (by decide) ?_
  refine go_aload e9_180 rfl rfl ?_
  refine go_aload e9_182 rfl rfl ?_
  refine go_iload e9_184 rfl ?_
  refine go_baload e9_186 rfl (k := 0) (by decide) rfl ?_
  refine go_aaload e9_187 rfl rfl (k := 0) (by decide) rfl ?_
  refine go_astore_12 e9_188 rfl rfl ?_
  rcases (show t = 0 ∨ t = 1 ∨ t = 2 ∨ 3 ≤ t by omega) with ht0 | ht0 | ht0 | ht0
  · refine go_aload e9_190 rfl rfl ?_
    refine go_virtual_0 e9_192 (wd 129 rfl) (wd 130 rfl) (wd 132 rfl) (wd 131 rfl) (wd 133 rfl) (wd 91 rfl) hy_23 pd_25 rfl (c_dec hw (j := o + 26) (k := 4) (K := 4) (p := 0) (xs := []) (v := 2) (E := 2) (V2 := (accL 2 [])) (j2 := o + 26) (k2 := 2) rfl rfl (by decide) rfl rfl trivial hb5 (fun i hi => absurd hi (Nat.not_lt_zero _)) (by simp only [List.length_cons, List.length_nil]; omega) (by simp only [List.length_cons, List.length_nil]; omega) (by decide) (by omega) rfl (by decide) (by decide) (by have e := own_acc [] 2; obtain ⟨r, h1, h2⟩ := e; simp only [List.length_cons, List.length_nil, Nat.zero_add, Nat.reduceAdd, Nat.reducePow] at h1 h2; show accL 2 [] / 4 = 0; omega) (fun i h1 h2 => hlv.1 i (by omega)) (by decide) (by decide) (by have e := own_acc [] 2; obtain ⟨r, h1, h2⟩ := e; simp only [List.length_cons, List.length_nil, Nat.zero_add, Nat.reduceAdd, Nat.reducePow] at h1 h2; show accL 2 [] % 4 = accL 2 []; omega) rfl rfl) rfl rfl 0 rfl (by decide) (by decide) (by decide) (by decide) ?_
    rintro _ _ ⟨d1, rfl, hd1, rfl⟩
    try simp only [List.replicate_succ, List.replicate_zero, List.set_cons_zero, List.set_cons_succ, List.length_nil, List.length_cons, Nat.zero_add, Nat.reduceAdd, List.nil_append, List.cons_append]
    refine go_istore_14 e9_195 rfl ?_
    refine go_iload e9_197 rfl ?_
    refine go_ifeqY e9_199 (tg := 208) (by decide) (by decide) ?_
    refine go_iload e9_208 rfl ?_
    refine go_aloadN e9_210 rfl rfl ?_
    refine go_getfield e9_211 (wd 41 rfl) rfl (j := 6) rfl ?_
    refine go_icleY e9_214 (tg := 234) (by decide) (by have k1 : (1 : Int32).toInt = 1 := rfl; omega) ?_
    refine go_iload e9_234 rfl ?_
    refine go_iload e9_236 rfl ?_
    refine go_iload e9_238 rfl ?_
    refine go_ishl e9_240 ?_
    refine go_iadd e9_241 ?_
    refine go_istore_9 e9_242 rfl ?_
    refine go_iload e9_244 rfl ?_
    refine go_iconst e9_246 (x := 1) rfl ?_
    refine go_ishl e9_247 ?_
    refine go_istore_10 e9_248 rfl ?_
    refine go_goto e9_250 (tg := 333) (by decide) ?_
    refine go_iinc_13 e9_333 (z := 1) rfl ?_
    refine go_goto e9_336 (tg := 144) (by decide) ?_
    refine go_iload e9_144 rfl ?_
    refine go_bipush e9_146 (x := 50) rfl ?_
    refine go_irem e9_148 (by decide) ?_
    refine go_ifneY e9_149 (tg := 190) (by decide) (by decide) ?_
    refine go_aload e9_190 rfl rfl ?_
    refine go_virtual_0 e9_192 (wd 129 rfl) (wd 130 rfl) (wd 132 rfl) (wd 131 rfl) (wd 133 rfl) (wd 91 rfl) hy_23 pd_25 rfl (c_dec hw (j := o + 26) (k := 2) (K := 2) (p := 2) (xs := []) (v := (accL 2 [])) (E := 66) (V2 := _) (j2 := o + 26) (k2 := 0) rfl rfl (by decide) rfl rfl trivial hd1 (fun i hi => absurd hi (Nat.not_lt_zero _)) (by simp only [List.length_cons, List.length_nil]; omega) (by simp only [List.length_cons, List.length_nil]; omega) (by decide) (by omega) rfl (by decide) (by decide) (by obtain ⟨r, h1, h2⟩ := own_acc [] 2; obtain ⟨r2, h3, h4⟩ := own_acc [] (accL 2 []); simp only [List.length_cons, List.length_nil, Nat.zero_add, Nat.reduceAdd, Nat.reducePow] at h1 h2 h3 h4; show accL (accL 2 []) [] / 1 = 2; omega) (fun i h1 h2 => hlv.2 i (by omega) (by omega)) (by decide) (by decide) rfl rfl rfl) rfl rfl 0 rfl (by decide) (by decide) (by decide) (by decide) ?_
    rintro _ _ ⟨d2, rfl, hd2, rfl⟩
    try simp only [List.replicate_succ, List.replicate_zero, List.set_cons_zero, List.set_cons_succ, List.length_nil, List.length_cons, Nat.zero_add, Nat.reduceAdd, List.nil_append, List.cons_append]
    refine go_istore_14 e9_195 rfl ?_
    refine go_iload e9_197 rfl ?_
    refine go_ifeqN e9_199 (tg := 208) (by decide) (by decide) ?_
    refine go_iload e9_202 rfl ?_
    refine go_iconst e9_204 (x := 1) rfl ?_
    refine go_icneY e9_205 (tg := 253) (by decide) (by decide) ?_
    refine go_iload e9_253 rfl ?_
    refine go_ifleN e9_255 (tg := 280) (by decide) (by decide) ?_
    refine go_aloadN e9_258 rfl rfl ?_
    refine go_aloadN e9_259 rfl rfl ?_
    refine go_aload e9_260 rfl rfl ?_
    refine go_iconst e9_262 (x := 0) rfl ?_
    refine go_iaload e9_263 rfl (k := 0) (by decide) rfl ?_
    refine go_iaload e9_264 rfl (k := 0) (by decide) rfl ?_
    refine go_iload e9_265 rfl ?_
    refine go_iload e9_267 rfl ?_
    refine go_private_3 e9_269 (Or.inl (wd 139 rfl)) (wd 141 rfl) (wd 2 rfl) (wd 140 rfl) (wd 142 rfl) (wd 3 rfl) hy_3 pd_26 rfl (c_app hw (pb := 2) rfl rfl hlim) rfl rfl 0 rfl (by decide) (by decide) (by decide) (by decide) ?_
    rintro _ _ ⟨us2, rfl, hul, hu0, rfl⟩
    try simp only [List.replicate_succ, List.replicate_zero, List.set_cons_zero, List.set_cons_succ, List.length_nil, List.length_cons, Nat.zero_add, Nat.reduceAdd, List.nil_append, List.cons_append]
    refine go_istore_8 e9_272 rfl ?_
    refine go_iconst e9_274 (x := 0) rfl ?_
    refine go_istore_9 e9_275 rfl ?_
    refine go_iconst e9_277 (x := 1) rfl ?_
    refine go_istore_10 e9_278 rfl ?_
    refine go_iload e9_280 rfl ?_
    refine go_iload e9_282 rfl ?_
    refine go_icneN e9_284 (tg := 290) (by decide) (by decide) ?_
    refine go_goto e9_287 (tg := 339) (by decide) ?_
    refine go_aloadN e9_339 rfl rfl ?_
    refine go_iload e9_340 rfl ?_
    refine go_putfield e9_342 (wd 149 rfl) (Or.inl (wd 150 rfl)) (wd 2 rfl) pf_0 rfl (j := 11) rfl rfl rfl ?_
    simp only [List.replicate_succ, List.replicate_zero, List.set_cons_zero, List.set_cons_succ, List.length_nil, List.length_cons, Nat.zero_add, Nat.reduceAdd, List.nil_append, List.cons_append]
    refine go_return e9_345 rfl (by decide) (by decide) ?_
    exact ⟨rfl, us2, _, _, _, rfl, rfl, hul, hu0⟩
  · refine go_aload e9_190 rfl rfl ?_
    refine go_virtual_0 e9_192 (wd 129 rfl) (wd 130 rfl) (wd 132 rfl) (wd 131 rfl) (wd 133 rfl) (wd 91 rfl) hy_23 pd_25 rfl (c_dec hw (j := o + 26) (k := 4) (K := 12) (p := 0) (xs := [y0]) (v := 2) (E := 2) (V2 := (accL 2 [y0])) (j2 := o + 27) (k2 := 10) rfl rfl (by decide) rfl rfl (own_N1 hy) hb5 (fun i hi => by simp only [List.length_cons, List.length_nil] at hi; omega) (by simp only [List.length_cons, List.length_nil]; omega) (by simp only [List.length_cons, List.length_nil]; omega) (by decide) (by omega) rfl (by decide) (by decide) (by have e := own_acc [y0] 2; obtain ⟨r, h1, h2⟩ := e; simp only [List.length_cons, List.length_nil, Nat.zero_add, Nat.reduceAdd, Nat.reducePow] at h1 h2; show accL 2 [y0] / 1024 = 0; omega) (fun i h1 h2 => hlv.1 i (by omega)) (by decide) (by decide) (by have e := own_acc [y0] 2; obtain ⟨r, h1, h2⟩ := e; simp only [List.length_cons, List.length_nil, Nat.zero_add, Nat.reduceAdd, Nat.reducePow] at h1 h2; show accL 2 [y0] % 1024 = accL 2 [y0]; omega) rfl rfl) rfl rfl 0 rfl (by decide) (by decide) (by decide) (by decide) ?_
    rintro _ _ ⟨d1, rfl, hd1, rfl⟩
    try simp only [List.replicate_succ, List.replicate_zero, List.set_cons_zero, List.set_cons_succ, List.length_nil, List.length_cons, Nat.zero_add, Nat.reduceAdd, List.nil_append, List.cons_append]
    refine go_istore_14 e9_195 rfl ?_
    refine go_iload e9_197 rfl ?_
    refine go_ifeqY e9_199 (tg := 208) (by decide) (by decide) ?_
    refine go_iload e9_208 rfl ?_
    refine go_aloadN e9_210 rfl rfl ?_
    refine go_getfield e9_211 (wd 41 rfl) rfl (j := 6) rfl ?_
    refine go_icleY e9_214 (tg := 234) (by decide) (by have k1 : (1 : Int32).toInt = 1 := rfl; omega) ?_
    refine go_iload e9_234 rfl ?_
    refine go_iload e9_236 rfl ?_
    refine go_iload e9_238 rfl ?_
    refine go_ishl e9_240 ?_
    refine go_iadd e9_241 ?_
    refine go_istore_9 e9_242 rfl ?_
    refine go_iload e9_244 rfl ?_
    refine go_iconst e9_246 (x := 1) rfl ?_
    refine go_ishl e9_247 ?_
    refine go_istore_10 e9_248 rfl ?_
    refine go_goto e9_250 (tg := 333) (by decide) ?_
    refine go_iinc_13 e9_333 (z := 1) rfl ?_
    refine go_goto e9_336 (tg := 144) (by decide) ?_
    refine go_iload e9_144 rfl ?_
    refine go_bipush e9_146 (x := 50) rfl ?_
    refine go_irem e9_148 (by decide) ?_
    refine go_ifneY e9_149 (tg := 190) (by decide) (by decide) ?_
    refine go_aload e9_190 rfl rfl ?_
    refine go_virtual_0 e9_192 (wd 129 rfl) (wd 130 rfl) (wd 132 rfl) (wd 131 rfl) (wd 133 rfl) (wd 91 rfl) hy_23 pd_25 rfl (c_dec hw (j := o + 27) (k := 10) (K := 10) (p := 2) (xs := []) (v := (accL 2 [y0])) (E := 66) (V2 := _) (j2 := o + 27) (k2 := 8) rfl rfl (by decide) rfl rfl trivial hd1 (fun i hi => absurd hi (Nat.not_lt_zero _)) (by simp only [List.length_cons, List.length_nil]; omega) (by simp only [List.length_cons, List.length_nil]; omega) (by decide) (by omega) rfl (by decide) (by decide) (by obtain ⟨r, h1, h2⟩ := own_acc [y0] 2; obtain ⟨r2, h3, h4⟩ := own_acc [] (accL 2 [y0]); simp only [List.length_cons, List.length_nil, Nat.zero_add, Nat.reduceAdd, Nat.reducePow] at h1 h2 h3 h4; show accL (accL 2 [y0]) [] / 256 = 2; omega) (fun i h1 h2 => hlv.2 i (by omega) (by omega)) (by decide) (by decide) rfl rfl rfl) rfl rfl 0 rfl (by decide) (by decide) (by decide) (by decide) ?_
    rintro _ _ ⟨d2, rfl, hd2, rfl⟩
    try simp only [List.replicate_succ, List.replicate_zero, List.set_cons_zero, List.set_cons_succ, List.length_nil, List.length_cons, Nat.zero_add, Nat.reduceAdd, List.nil_append, List.cons_append]
    refine go_istore_14 e9_195 rfl ?_
    refine go_iload e9_197 rfl ?_
    refine go_ifeqN e9_199 (tg := 208) (by decide) (by decide) ?_
    refine go_iload e9_202 rfl ?_
    refine go_iconst e9_204 (x := 1) rfl ?_
    refine go_icneY e9_205 (tg := 253) (by decide) (by decide) ?_
    refine go_iload e9_253 rfl ?_
    refine go_ifleN e9_255 (tg := 280) (by decide) (by decide) ?_
    refine go_aloadN e9_258 rfl rfl ?_
    refine go_aloadN e9_259 rfl rfl ?_
    refine go_aload e9_260 rfl rfl ?_
    refine go_iconst e9_262 (x := 0) rfl ?_
    refine go_iaload e9_263 rfl (k := 0) (by decide) rfl ?_
    refine go_iaload e9_264 rfl (k := 0) (by decide) rfl ?_
    refine go_iload e9_265 rfl ?_
    refine go_iload e9_267 rfl ?_
    refine go_private_3 e9_269 (Or.inl (wd 139 rfl)) (wd 141 rfl) (wd 2 rfl) (wd 140 rfl) (wd 142 rfl) (wd 3 rfl) hy_3 pd_26 rfl (c_app hw (pb := 2) rfl rfl hlim) rfl rfl 0 rfl (by decide) (by decide) (by decide) (by decide) ?_
    rintro _ _ ⟨us2, rfl, hul, hu0, rfl⟩
    try simp only [List.replicate_succ, List.replicate_zero, List.set_cons_zero, List.set_cons_succ, List.length_nil, List.length_cons, Nat.zero_add, Nat.reduceAdd, List.nil_append, List.cons_append]
    refine go_istore_8 e9_272 rfl ?_
    refine go_iconst e9_274 (x := 0) rfl ?_
    refine go_istore_9 e9_275 rfl ?_
    refine go_iconst e9_277 (x := 1) rfl ?_
    refine go_istore_10 e9_278 rfl ?_
    refine go_iload e9_280 rfl ?_
    refine go_iload e9_282 rfl ?_
    refine go_icneN e9_284 (tg := 290) (by decide) (by decide) ?_
    refine go_goto e9_287 (tg := 339) (by decide) ?_
    refine go_aloadN e9_339 rfl rfl ?_
    refine go_iload e9_340 rfl ?_
    refine go_putfield e9_342 (wd 149 rfl) (Or.inl (wd 150 rfl)) (wd 2 rfl) pf_0 rfl (j := 11) rfl rfl rfl ?_
    simp only [List.replicate_succ, List.replicate_zero, List.set_cons_zero, List.set_cons_succ, List.length_nil, List.length_cons, Nat.zero_add, Nat.reduceAdd, List.nil_append, List.cons_append]
    refine go_return e9_345 rfl (by decide) (by decide) ?_
    exact ⟨rfl, us2, _, _, _, rfl, rfl, hul, hu0⟩
  · refine go_aload e9_190 rfl rfl ?_
    refine go_virtual_0 e9_192 (wd 129 rfl) (wd 130 rfl) (wd 132 rfl) (wd 131 rfl) (wd 133 rfl) (wd 91 rfl) hy_23 pd_25 rfl (c_dec hw (j := o + 26) (k := 4) (K := 20) (p := 0) (xs := [y0, y1]) (v := 2) (E := 2) (V2 := (accL 2 [y0, y1])) (j2 := o + 28) (k2 := 18) rfl rfl (by decide) rfl rfl (own_N2 hy) hb5 (fun i hi => by simp only [List.length_cons, List.length_nil] at hi; omega) (by simp only [List.length_cons, List.length_nil]; omega) (by simp only [List.length_cons, List.length_nil]; omega) (by decide) (by omega) rfl (by decide) (by decide) (by have e := own_acc [y0, y1] 2; obtain ⟨r, h1, h2⟩ := e; simp only [List.length_cons, List.length_nil, Nat.zero_add, Nat.reduceAdd, Nat.reducePow] at h1 h2; show accL 2 [y0, y1] / 262144 = 0; omega) (fun i h1 h2 => hlv.1 i (by omega)) (by decide) (by decide) (by have e := own_acc [y0, y1] 2; obtain ⟨r, h1, h2⟩ := e; simp only [List.length_cons, List.length_nil, Nat.zero_add, Nat.reduceAdd, Nat.reducePow] at h1 h2; show accL 2 [y0, y1] % 262144 = accL 2 [y0, y1]; omega) rfl rfl) rfl rfl 0 rfl (by decide) (by decide) (by decide) (by decide) ?_
    rintro _ _ ⟨d1, rfl, hd1, rfl⟩
    try simp only [List.replicate_succ, List.replicate_zero, List.set_cons_zero, List.set_cons_succ, List.length_nil, List.length_cons, Nat.zero_add, Nat.reduceAdd, List.nil_append, List.cons_append]
    refine go_istore_14 e9_195 rfl ?_
    refine go_iload e9_197 rfl ?_
    refine go_ifeqY e9_199 (tg := 208) (by decide) (by decide) ?_
    refine go_iload e9_208 rfl ?_
    refine go_aloadN e9_210 rfl rfl ?_
    refine go_getfield e9_211 (wd 41 rfl) rfl (j := 6) rfl ?_
    refine go_icleY e9_214 (tg := 234) (by decide) (by have k1 : (1 : Int32).toInt = 1 := rfl; omega) ?_
    refine go_iload e9_234 rfl ?_
    refine go_iload e9_236 rfl ?_
    refine go_iload e9_238 rfl ?_
    refine go_ishl e9_240 ?_
    refine go_iadd e9_241 ?_
    refine go_istore_9 e9_242 rfl ?_
    refine go_iload e9_244 rfl ?_
    refine go_iconst e9_246 (x := 1) rfl ?_
    refine go_ishl e9_247 ?_
    refine go_istore_10 e9_248 rfl ?_
    refine go_goto e9_250 (tg := 333) (by decide) ?_
    refine go_iinc_13 e9_333 (z := 1) rfl ?_
    refine go_goto e9_336 (tg := 144) (by decide) ?_
    refine go_iload e9_144 rfl ?_
    refine go_bipush e9_146 (x := 50) rfl ?_
    refine go_irem e9_148 (by decide) ?_
    refine go_ifneY e9_149 (tg := 190) (by decide) (by decide) ?_
    refine go_aload e9_190 rfl rfl ?_
    refine go_virtual_0 e9_192 (wd 129 rfl) (wd 130 rfl) (wd 132 rfl) (wd 131 rfl) (wd 133 rfl) (wd 91 rfl) hy_23 pd_25 rfl (c_dec hw (j := o + 28) (k := 18) (K := 18) (p := 2) (xs := []) (v := (accL 2 [y0, y1])) (E := 66) (V2 := _) (j2 := o + 28) (k2 := 16) rfl rfl (by decide) rfl rfl trivial hd1 (fun i hi => absurd hi (Nat.not_lt_zero _)) (by simp only [List.length_cons, List.length_nil]; omega) (by simp only [List.length_cons, List.length_nil]; omega) (by decide) (by omega) rfl (by decide) (by decide) (by obtain ⟨r, h1, h2⟩ := own_acc [y0, y1] 2; obtain ⟨r2, h3, h4⟩ := own_acc [] (accL 2 [y0, y1]); simp only [List.length_cons, List.length_nil, Nat.zero_add, Nat.reduceAdd, Nat.reducePow] at h1 h2 h3 h4; show accL (accL 2 [y0, y1]) [] / 65536 = 2; omega) (fun i h1 h2 => hlv.2 i (by omega) (by omega)) (by decide) (by decide) rfl rfl rfl) rfl rfl 0 rfl (by decide) (by decide) (by decide) (by decide) ?_
    rintro _ _ ⟨d2, rfl, hd2, rfl⟩
    try simp only [List.replicate_succ, List.replicate_zero, List.set_cons_zero, List.set_cons_succ, List.length_nil, List.length_cons, Nat.zero_add, Nat.reduceAdd, List.nil_append, List.cons_append]
    refine go_istore_14 e9_195 rfl ?_
    refine go_iload e9_197 rfl ?_
    refine go_ifeqN e9_199 (tg := 208) (by decide) (by decide) ?_
    refine go_iload e9_202 rfl ?_
    refine go_iconst e9_204 (x := 1) rfl ?_
    refine go_icneY e9_205 (tg := 253) (by decide) (by decide) ?_
    refine go_iload e9_253 rfl ?_
    refine go_ifleN e9_255 (tg := 280) (by decide) (by decide) ?_
    refine go_aloadN e9_258 rfl rfl ?_
    refine go_aloadN e9_259 rfl rfl ?_
    refine go_aload e9_260 rfl rfl ?_
    refine go_iconst e9_262 (x := 0) rfl ?_
    refine go_iaload e9_263 rfl (k := 0) (by decide) rfl ?_
    refine go_iaload e9_264 rfl (k := 0) (by decide) rfl ?_
    refine go_iload e9_265 rfl ?_
    refine go_iload e9_267 rfl ?_
    refine go_private_3 e9_269 (Or.inl (wd 139 rfl)) (wd 141 rfl) (wd 2 rfl) (wd 140 rfl) (wd 142 rfl) (wd 3 rfl) hy_3 pd_26 rfl (c_app hw (pb := 2) rfl rfl hlim) rfl rfl 0 rfl (by decide) (by decide) (by decide) (by decide) ?_
    rintro _ _ ⟨us2, rfl, hul, hu0, rfl⟩
    try simp only [List.replicate_succ, List.replicate_zero, List.set_cons_zero, List.set_cons_succ, List.length_nil, List.length_cons, Nat.zero_add, Nat.reduceAdd, List.nil_append, List.cons_append]
    refine go_istore_8 e9_272 rfl ?_
    refine go_iconst e9_274 (x := 0) rfl ?_
    refine go_istore_9 e9_275 rfl ?_
    refine go_iconst e9_277 (x := 1) rfl ?_
    refine go_istore_10 e9_278 rfl ?_
    refine go_iload e9_280 rfl ?_
    refine go_iload e9_282 rfl ?_
    refine go_icneN e9_284 (tg := 290) (by decide) (by decide) ?_
    refine go_goto e9_287 (tg := 339) (by decide) ?_
    refine go_aloadN e9_339 rfl rfl ?_
    refine go_iload e9_340 rfl ?_
    refine go_putfield e9_342 (wd 149 rfl) (Or.inl (wd 150 rfl)) (wd 2 rfl) pf_0 rfl (j := 11) rfl rfl rfl ?_
    simp only [List.replicate_succ, List.replicate_zero, List.set_cons_zero, List.set_cons_succ, List.length_nil, List.length_cons, Nat.zero_add, Nat.reduceAdd, List.nil_append, List.cons_append]
    refine go_return e9_345 rfl (by decide) (by decide) ?_
    exact ⟨rfl, us2, _, _, _, rfl, rfl, hul, hu0⟩
  · refine go_aload e9_190 rfl rfl ?_
    refine go_virtual_0 e9_192 (wd 129 rfl) (wd 130 rfl) (wd 132 rfl) (wd 131 rfl) (wd 133 rfl) (wd 91 rfl) hy_23 pd_25 rfl (c_dec hw (j := o + 26) (k := 4) (K := 20) (p := 0) (xs := [y0, y1]) (v := 2) (E := 2) (V2 := (accL 2 [y0, y1])) (j2 := o + 28) (k2 := 18) rfl rfl (by decide) rfl rfl (own_N2 hy) hb5 (fun i hi => by simp only [List.length_cons, List.length_nil] at hi; omega) (by simp only [List.length_cons, List.length_nil]; omega) (by simp only [List.length_cons, List.length_nil]; omega) (by decide) (by omega) rfl (by decide) (by decide) (by have e := own_acc [y0, y1] 2; obtain ⟨r, h1, h2⟩ := e; simp only [List.length_cons, List.length_nil, Nat.zero_add, Nat.reduceAdd, Nat.reducePow] at h1 h2; show accL 2 [y0, y1] / 262144 = 0; omega) (fun i h1 h2 => hlv.1 i (by omega)) (by decide) (by decide) (by have e := own_acc [y0, y1] 2; obtain ⟨r, h1, h2⟩ := e; simp only [List.length_cons, List.length_nil, Nat.zero_add, Nat.reduceAdd, Nat.reducePow] at h1 h2; show accL 2 [y0, y1] % 262144 = accL 2 [y0, y1]; omega) rfl rfl) rfl rfl 0 rfl (by decide) (by decide) (by decide) (by decide) ?_
    rintro _ _ ⟨d1, rfl, hd1, rfl⟩
    try simp only [List.replicate_succ, List.replicate_zero, List.set_cons_zero, List.set_cons_succ, List.length_nil, List.length_cons, Nat.zero_add, Nat.reduceAdd, List.nil_append, List.cons_append]
    refine go_istore_14 e9_195 rfl ?_
    refine go_iload e9_197 rfl ?_
    refine go_ifeqY e9_199 (tg := 208) (by decide) (by decide) ?_
    refine go_iload e9_208 rfl ?_
    refine go_aloadN e9_210 rfl rfl ?_
    refine go_getfield e9_211 (wd 41 rfl) rfl (j := 6) rfl ?_
    refine go_icleY e9_214 (tg := 234) (by decide) (by have k1 : (1 : Int32).toInt = 1 := rfl; omega) ?_
    refine go_iload e9_234 rfl ?_
    refine go_iload e9_236 rfl ?_
    refine go_iload e9_238 rfl ?_
    refine go_ishl e9_240 ?_
    refine go_iadd e9_241 ?_
    refine go_istore_9 e9_242 rfl ?_
    refine go_iload e9_244 rfl ?_
    refine go_iconst e9_246 (x := 1) rfl ?_
    refine go_ishl e9_247 ?_
    refine go_istore_10 e9_248 rfl ?_
    refine go_goto e9_250 (tg := 333) (by decide) ?_
    refine go_iinc_13 e9_333 (z := 1) rfl ?_
    refine go_goto e9_336 (tg := 144) (by decide) ?_
    refine go_iload e9_144 rfl ?_
    refine go_bipush e9_146 (x := 50) rfl ?_
    refine go_irem e9_148 (by decide) ?_
    refine go_ifneY e9_149 (tg := 190) (by decide) (by decide) ?_
    refine go_aload e9_190 rfl rfl ?_
    refine go_virtual_0 e9_192 (wd 129 rfl) (wd 130 rfl) (wd 132 rfl) (wd 131 rfl) (wd 133 rfl) (wd 91 rfl) hy_23 pd_25 rfl (c_dec hw (j := o + 28) (k := 18) (K := 26) (p := 2) (xs := [y2]) (v := (accL 2 [y0, y1])) (E := 66) (V2 := _) (j2 := o + 29) (k2 := 24) rfl rfl (by decide) rfl rfl (own_N1 hy.2.2) hd1 (fun i hi => by simp only [List.length_cons, List.length_nil] at hi; omega) (by simp only [List.length_cons, List.length_nil]; omega) (by simp only [List.length_cons, List.length_nil]; omega) (by decide) (by omega) rfl (by decide) (by decide) (by obtain ⟨r, h1, h2⟩ := own_acc [y0, y1] 2; obtain ⟨r2, h3, h4⟩ := own_acc [y2] (accL 2 [y0, y1]); simp only [List.length_cons, List.length_nil, Nat.zero_add, Nat.reduceAdd, Nat.reducePow] at h1 h2 h3 h4; show accL (accL 2 [y0, y1]) [y2] / 16777216 = 2; omega) (fun i h1 h2 => hlv.2 i (by omega) (by omega)) (by decide) (by decide) rfl rfl rfl) rfl rfl 0 rfl (by decide) (by decide) (by decide) (by decide) ?_
    rintro _ _ ⟨d2, rfl, hd2, rfl⟩
    try simp only [List.replicate_succ, List.replicate_zero, List.set_cons_zero, List.set_cons_succ, List.length_nil, List.length_cons, Nat.zero_add, Nat.reduceAdd, List.nil_append, List.cons_append]
    refine go_istore_14 e9_195 rfl ?_
    refine go_iload e9_197 rfl ?_
    refine go_ifeqN e9_199 (tg := 208) (by decide) (by decide) ?_
    refine go_iload e9_202 rfl ?_
    refine go_iconst e9_204 (x := 1) rfl ?_
    refine go_icneY e9_205 (tg := 253) (by decide) (by decide) ?_
    refine go_iload e9_253 rfl ?_
    refine go_ifleN e9_255 (tg := 280) (by decide) (by decide) ?_
    refine go_aloadN e9_258 rfl rfl ?_
    refine go_aloadN e9_259 rfl rfl ?_
    refine go_aload e9_260 rfl rfl ?_
    refine go_iconst e9_262 (x := 0) rfl ?_
    refine go_iaload e9_263 rfl (k := 0) (by decide) rfl ?_
    refine go_iaload e9_264 rfl (k := 0) (by decide) rfl ?_
    refine go_iload e9_265 rfl ?_
    refine go_iload e9_267 rfl ?_
    refine go_private_3 e9_269 (Or.inl (wd 139 rfl)) (wd 141 rfl) (wd 2 rfl) (wd 140 rfl) (wd 142 rfl) (wd 3 rfl) hy_3 pd_26 rfl (c_app hw (pb := 2) rfl rfl hlim) rfl rfl 0 rfl (by decide) (by decide) (by decide) (by decide) ?_
    rintro _ _ ⟨us2, rfl, hul, hu0, rfl⟩
    try simp only [List.replicate_succ, List.replicate_zero, List.set_cons_zero, List.set_cons_succ, List.length_nil, List.length_cons, Nat.zero_add, Nat.reduceAdd, List.nil_append, List.cons_append]
    refine go_istore_8 e9_272 rfl ?_
    refine go_iconst e9_274 (x := 0) rfl ?_
    refine go_istore_9 e9_275 rfl ?_
    refine go_iconst e9_277 (x := 1) rfl ?_
    refine go_istore_10 e9_278 rfl ?_
    refine go_iload e9_280 rfl ?_
    refine go_iload e9_282 rfl ?_
    refine go_icneN e9_284 (tg := 290) (by decide) (by decide) ?_
    refine go_goto e9_287 (tg := 339) (by decide) ?_
    refine go_aloadN e9_339 rfl rfl ?_
    refine go_iload e9_340 rfl ?_
    refine go_putfield e9_342 (wd 149 rfl) (Or.inl (wd 150 rfl)) (wd 2 rfl) pf_0 rfl (j := 11) rfl rfl rfl ?_
    simp only [List.replicate_succ, List.replicate_zero, List.set_cons_zero, List.set_cons_succ, List.length_nil, List.length_cons, Nat.zero_add, Nat.reduceAdd, List.nil_append, List.cons_append]
    refine go_return e9_345 rfl (by decide) (by decide) ?_
    exact ⟨rfl, us2, _, _, _, rfl, rfl, hul, hu0⟩
set_option maxRecDepth 65536 in
set_option maxHeartbeats 4000000 in
theorem c_nb {l : Launch} {Z : State} {a0 : Array Value} {b : Nat} (hw : ∀ d ∈ tables_1, d.before a0 Z = true) {o N t : Nat} {bb : Int64} {vs : List Value} {d0 d1 d2 d3 y0 y1 y2 y3 y4 y5 y6 y7 lim : Int32} (hN : N = o + 26 + t) (ho : o ≤ 100) (ht : t ≤ 100) (hx : Nx vs (o + 4) [49, 65, 89, 38, 83, 89, d0, d1, d2, d3, 0, 0, 0, 64, 0, 64, 0, 32, 0, 33, 1, 2, y0, y1, y2, y3, y4, y5, y6, y7]) (hv : bb.toBitVec.toNat % 2 ^ 0 = 0) (hlim : 100000 ≤ lim.toInt) :
    Met l Z a0 b (⟨"com/example/deltaweave/deltaweave/format/Bzip2InputStream", "nextBlock", "()V"⟩ : MethodName) prog_14_method_7_code 4 none ({ frames := 4, cells := 24, slots := 68295, locals := 85 } : Room) [.ref 1] [ar .byte vs, Bz (.ref 2) 0 (o + 4) N 0 bb (Tl lim 0 0 0 0 0 0 0 0 0 0 0), ar .int []] (fun r H' => r = none ∧ ∃ (blk : Value) (j2 k2 : Nat) (b2 : Int64) (lim sc bn bcr bl po br cr lb eb rp : Int32), H'[1]? = some (Bz blk 0 j2 N k2 b2 (Tl lim sc 0 bn bcr bl po br cr lb eb rp))) := by
  obtain ⟨x4, x5, x6, x7, x8, x9, x10, x11, x12, x13, x14, x15, x16, x17, x18, x19, x20, x21, x22, x23, x24, x25, x26, x27, x28, x29, x30, x31, x32, x33, -⟩ := hx
  refine Met.of_go hw (plainFor_of_name pn_2) (L0 := [.val (.ref 1), .unset, .unset, .unset]) rfl ?_
  intro p e s m args below meth c C
  refine go_aloadN e7_0 rfl rfl ?_
  refine go_bipush e7_1 (x := 24) rfl ?_
  refine go_private_1 e7_3 (Or.inl (wd 24 rfl)) (wd 26 rfl) (wd 2 rfl) (wd 25 rfl) (wd 27 rfl) (wd 3 rfl) hy_3 pd_16 rfl (c_bits hw (j := o + 4) (n := 24) (k := 0) (k2 := 0) (xs := [49, 65, 89]) (R := 3227993) (V2 := 0) (j2 := (o + 7)) rfl rfl ⟨x4, x5, x6, trivial⟩ hv (fun i hi => by simp only [List.length_cons, List.length_nil] at hi; omega) (by simp only [List.length_cons, List.length_nil]; omega) rfl (by decide) (by omega) (by decide) (by decide) (by decide) (by decide) (by decide) (by decide) rfl) rfl rfl 0 rfl (by decide) (by decide) (by decide) (by decide) ?_
  rintro _ _ ⟨b1, rfl, hb1, rfl⟩
  try simp only [List.replicate_succ, List.replicate_zero, List.set_cons_zero, List.set_cons_succ, List.length_nil, List.length_cons, Nat.zero_add, Nat.reduceAdd, List.nil_append, List.cons_append]
  refine go_i2l e7_6 ?_
  refine go_bipush e7_7 (x := 24) rfl ?_
  refine go_lshl e7_9 ?_
  refine go_aloadN e7_10 rfl rfl ?_
  refine go_bipush e7_11 (x := 24) rfl ?_
  refine go_private_1 e7_13 (Or.inl (wd 24 rfl)) (wd 26 rfl) (wd 2 rfl) (wd 25 rfl) (wd 27 rfl) (wd 3 rfl) hy_3 pd_16 rfl (c_bits hw (j := o + 7) (n := 24) (k := 0) (k2 := 0) (xs := [38, 83, 89]) (R := 2511705) (V2 := 0) (j2 := (o + 10)) rfl rfl ⟨x7, x8, x9, trivial⟩ hb1 (fun i hi => by simp only [List.length_cons, List.length_nil] at hi; omega) (by simp only [List.length_cons, List.length_nil]; omega) rfl (by decide) (by omega) (by decide) (by decide) (by decide) (by decide) (by decide) (by decide) rfl) rfl rfl 2 rfl (by decide) (by decide) (by decide) (by decide) ?_
  rintro _ _ ⟨b2, rfl, hb2, rfl⟩
  try simp only [List.replicate_succ, List.replicate_zero, List.set_cons_zero, List.set_cons_succ, List.length_nil, List.length_cons, Nat.zero_add, Nat.reduceAdd, List.nil_append, List.cons_append]
  refine go_i2l e7_16 ?_
  refine go_lor e7_17 ?_
  refine go_lstore_1 e7_18 (Or.inl rfl) rfl ?_
  refine go_lloadN e7_19 rfl ?_
  refine go_ldc2 e7_20 (wd 47 rfl) ?_
  refine go_lcne e7_23 e7_24 (tg := 56) (by decide) ?_ ?_
  · intro c24
    refine go_lloadN e7_56 rfl ?_
    refine go_ldc2 e7_57 (wd 57 rfl) ?_
    refine go_lceq e7_60 e7_61 (tg := 83) (by decide) ?_ ?_
    · intro c61
      refine go_aloadN e7_83 rfl rfl ?_
      refine go_dup e7_84 rfl ?_
      refine go_getfield e7_85 (wd 58 rfl) rfl (j := 9) rfl ?_
      refine go_iconst e7_88 (x := 1) rfl ?_
      refine go_iadd e7_89 ?_
      refine go_putfield e7_90 (wd 58 rfl) (Or.inl (wd 59 rfl)) (wd 2 rfl) pf_0 rfl (j := 9) rfl rfl rfl ?_
      simp only [List.replicate_succ, List.replicate_zero, List.set_cons_zero, List.set_cons_succ, List.length_nil, List.length_cons, Nat.zero_add, Nat.reduceAdd, List.nil_append, List.cons_append]
      refine go_aloadN e7_93 rfl rfl ?_
      refine go_aloadN e7_94 rfl rfl ?_
      refine go_bipush e7_95 (x := 32) rfl ?_
      refine go_private_1 e7_97 (Or.inl (wd 24 rfl)) (wd 26 rfl) (wd 2 rfl) (wd 25 rfl) (wd 27 rfl) (wd 3 rfl) hy_3 pd_16 rfl (c_bits hw (j := o + 10) (n := 32) (k := 0) (k2 := 0) (xs := [d0, d1, d2, d3]) (R := (accL 0 [d0, d1, d2, d3])) (V2 := 0) (j2 := (o + 14)) rfl rfl ⟨x10, x11, x12, x13, trivial⟩ hb2 (fun i hi => by simp only [List.length_cons, List.length_nil] at hi; omega) (by simp only [List.length_cons, List.length_nil]; omega) rfl (by decide) (by omega) (by decide) (by decide) (by decide) (by decide) (Nat.div_one _) (Nat.mod_one _) rfl) rfl rfl 1 rfl (by decide) (by decide) (by decide) (by decide) ?_
      rintro _ _ ⟨b3, rfl, hb3, rfl⟩
      try simp only [List.replicate_succ, List.replicate_zero, List.set_cons_zero, List.set_cons_succ, List.length_nil, List.length_cons, Nat.zero_add, Nat.reduceAdd, List.nil_append, List.cons_append]
      refine go_putfield e7_100 (wd 60 rfl) (Or.inl (wd 61 rfl)) (wd 2 rfl) pf_0 rfl (j := 10) rfl rfl rfl ?_
      simp only [List.replicate_succ, List.replicate_zero, List.set_cons_zero, List.set_cons_succ, List.length_nil, List.length_cons, Nat.zero_add, Nat.reduceAdd, List.nil_append, List.cons_append]
      refine go_aloadN e7_103 rfl rfl ?_
      refine go_iconst e7_104 (x := 1) rfl ?_
      refine go_private_1 e7_105 (Or.inl (wd 24 rfl)) (wd 26 rfl) (wd 2 rfl) (wd 25 rfl) (wd 27 rfl) (wd 3 rfl) hy_3 pd_16 rfl (c_bits hw (j := o + 14) (n := 1) (k := 0) (k2 := 7) (xs := [0]) (R := 0) (V2 := 0) (j2 := (o + 15)) rfl rfl ⟨x14, trivial⟩ hb3 (fun i hi => by simp only [List.length_cons, List.length_nil] at hi; omega) (by simp only [List.length_cons, List.length_nil]; omega) rfl (by decide) (by omega) (by decide) (by decide) (by decide) (by decide) (by decide) (by decide) rfl) rfl rfl 0 rfl (by decide) (by decide) (by decide) (by decide) ?_
      rintro _ _ ⟨b4, rfl, hb4, rfl⟩
      try simp only [List.replicate_succ, List.replicate_zero, List.set_cons_zero, List.set_cons_succ, List.length_nil, List.length_cons, Nat.zero_add, Nat.reduceAdd, List.nil_append, List.cons_append]
      refine go_ifeqY e7_108 (tg := 128) (by decide) (by decide) ?_
      refine go_aloadN e7_128 rfl rfl ?_
      refine go_bipush e7_129 (x := 24) rfl ?_
      refine go_private_1 e7_131 (Or.inl (wd 24 rfl)) (wd 26 rfl) (wd 2 rfl) (wd 25 rfl) (wd 27 rfl) (wd 3 rfl) hy_3 pd_16 rfl (c_bits hw (j := o + 15) (n := 24) (k := 7) (k2 := 7) (xs := [0, 0, 64]) (R := 0) (V2 := 64) (j2 := (o + 18)) rfl rfl ⟨x15, x16, x17, trivial⟩ hb4 (fun i hi => by simp only [List.length_cons, List.length_nil] at hi; omega) (by simp only [List.length_cons, List.length_nil]; omega) rfl (by decide) (by omega) (by decide) (by decide) (by decide) (by decide) (by decide) (by decide) rfl) rfl rfl 0 rfl (by decide) (by decide) (by decide) (by decide) ?_
      rintro _ _ ⟨b5, rfl, hb5, rfl⟩
      try simp only [List.replicate_succ, List.replicate_zero, List.set_cons_zero, List.set_cons_succ, List.length_nil, List.length_cons, Nat.zero_add, Nat.reduceAdd, List.nil_append, List.cons_append]
      refine go_istore_3 e7_134 rfl ?_
      refine go_aloadN e7_135 rfl rfl ?_
      refine go_privateV_0 e7_136 (Or.inl (wd 62 rfl)) (wd 64 rfl) (wd 2 rfl) (wd 63 rfl) (wd 65 rfl) (wd 3 rfl) hy_3 pd_27 rfl (c_rb hw hN ho ht ⟨x18, x19, x20, x21, x22, x23, x24, x25, trivial⟩ ⟨x26, x27, x28, trivial⟩ hb5 hlim) rfl rfl 0 rfl (by decide) (by decide) (by decide) (by decide) ?_
      rintro H1 ⟨us, j2, k2, b6, g1, g25, gl, g0⟩
      try simp only [List.replicate_succ, List.replicate_zero, List.set_cons_zero, List.set_cons_succ, List.length_nil, List.length_cons, Nat.zero_add, Nat.reduceAdd, List.nil_append, List.cons_append]
      refine go_iloadN e7_139 rfl ?_
      refine go_aloadN e7_140 rfl rfl ?_
      refine go_getfield e7_141 (wd 149 rfl) g1 (j := 11) rfl ?_
      refine go_icltY e7_144 (tg := 169) (by decide) (by decide) ?_
      refine go_aloadN e7_169 rfl rfl ?_
      refine go_privateV_0 e7_170 (Or.inl (wd 151 rfl)) (wd 153 rfl) (wd 2 rfl) (wd 152 rfl) (wd 154 rfl) (wd 3 rfl) hy_3 pd_27 rfl (c_link hw g1 g25 gl g0) g1 rfl 0 rfl (by decide) (by decide) (by decide) (by decide) ?_
      rintro _ ⟨us3, cs, x3, hl3, hu3, rfl⟩
      have G1 := get_app (H2 := [ar .int cs]) (get_ne (m' := ar .int us3) g1 (show 25 ≠ 1 by decide))
      try simp only [List.replicate_succ, List.replicate_zero, List.set_cons_zero, List.set_cons_succ, List.length_nil, List.length_cons, Nat.zero_add, Nat.reduceAdd, List.nil_append, List.cons_append]
      refine go_aloadN e7_173 rfl rfl ?_
      refine go_aloadN e7_174 rfl rfl ?_
      refine go_getfield e7_175 (wd 16 rfl) G1 (j := 0) rfl ?_
      refine go_iloadN e7_178 rfl ?_
      refine go_iaload e7_179 (get_app (get_eq g25)) (k := 0) (by decide) hu3 ?_
      refine go_bipush e7_180 (x := 8) rfl ?_
      refine go_iushr e7_182 ?_
      refine go_putfield e7_183 (wd 155 rfl) (Or.inl (wd 156 rfl)) (wd 2 rfl) pf_0 G1 (j := 12) rfl rfl rfl ?_
      simp only [List.replicate_succ, List.replicate_zero, List.set_cons_zero, List.set_cons_succ, List.length_nil, List.length_cons, Nat.zero_add, Nat.reduceAdd, List.nil_append, List.cons_append]
      refine go_aloadN e7_186 rfl rfl ?_
      refine go_iconst e7_187 (x := 0) rfl ?_
      refine go_putfield e7_188 (wd 157 rfl) (Or.inl (wd 158 rfl)) (wd 2 rfl) pf_0 (get_eq G1) (j := 13) rfl rfl rfl ?_
      simp only [List.replicate_succ, List.replicate_zero, List.set_cons_zero, List.set_cons_succ, List.length_nil, List.length_cons, Nat.zero_add, Nat.reduceAdd, List.nil_append, List.cons_append]
      rw [List.set_set]
      refine go_aloadN e7_191 rfl rfl ?_
      refine go_iconst e7_192 (x := (-1)) rfl ?_
      refine go_putfield e7_193 (wd 159 rfl) (Or.inl (wd 160 rfl)) (wd 2 rfl) pf_0 (get_eq G1) (j := 14) rfl rfl rfl ?_
      simp only [List.replicate_succ, List.replicate_zero, List.set_cons_zero, List.set_cons_succ, List.length_nil, List.length_cons, Nat.zero_add, Nat.reduceAdd, List.nil_append, List.cons_append]
      rw [List.set_set]
      refine go_aloadN e7_196 rfl rfl ?_
      refine go_iconst e7_197 (x := (-1)) rfl ?_
      refine go_putfield e7_198 (wd 161 rfl) (Or.inl (wd 162 rfl)) (wd 2 rfl) pf_0 (get_eq G1) (j := 15) rfl rfl rfl ?_
      simp only [List.replicate_succ, List.replicate_zero, List.set_cons_zero, List.set_cons_succ, List.length_nil, List.length_cons, Nat.zero_add, Nat.reduceAdd, List.nil_append, List.cons_append]
      rw [List.set_set]
      refine go_aloadN e7_201 rfl rfl ?_
      refine go_iconst e7_202 (x := 0) rfl ?_
      refine go_putfield e7_203 (wd 163 rfl) (Or.inl (wd 164 rfl)) (wd 2 rfl) pf_0 (get_eq G1) (j := 16) rfl rfl rfl ?_
      simp only [List.replicate_succ, List.replicate_zero, List.set_cons_zero, List.set_cons_succ, List.length_nil, List.length_cons, Nat.zero_add, Nat.reduceAdd, List.nil_append, List.cons_append]
      rw [List.set_set]
      refine go_aloadN e7_206 rfl rfl ?_
      refine go_iconst e7_207 (x := 0) rfl ?_
      refine go_putfield e7_208 (wd 165 rfl) (Or.inl (wd 166 rfl)) (wd 2 rfl) pf_0 (get_eq G1) (j := 17) rfl rfl rfl ?_
      simp only [List.replicate_succ, List.replicate_zero, List.set_cons_zero, List.set_cons_succ, List.length_nil, List.length_cons, Nat.zero_add, Nat.reduceAdd, List.nil_append, List.cons_append]
      rw [List.set_set]
      refine go_return e7_211 rfl (by decide) (by decide) ?_
      exact ⟨rfl, _, _, _, _, _, _, _, _, _, _, _, _, _, _, _, get_eq G1⟩
    · intro c61
      exact absurd (by decide) c61
  · intro c24
    exact absurd c24 (by decide)
set_option maxRecDepth 65536 in
set_option maxHeartbeats 4000000 in
theorem c_nn {l : Launch} {Z : State} {a0 : Array Value} {b : Nat} (hw : ∀ d ∈ tables_1, d.before a0 Z = true) {o N t : Nat} {bb : Int64} {vs : List Value} {lim : Int32} (hN : N = o + 14 + t) (ho : o ≤ 100) (ht : t ≤ 100) (hx : Nx vs (o + 4) [23, 114, 69, 56, 80, (-112), 0, 0, 0, 0]) (hv : bb.toBitVec.toNat % 2 ^ 0 = 0) :
    Met l Z a0 b (⟨"com/example/deltaweave/deltaweave/format/Bzip2InputStream", "nextBlock", "()V"⟩ : MethodName) prog_14_method_7_code 4 none ({ frames := 2, cells := 0, slots := 0, locals := 28 } : Room) [.ref 1] [ar .byte vs, Bz (.ref 2) 0 (o + 4) N 0 bb (Tl lim 0 0 0 0 0 0 0 0 0 0 0), ar .int []] (fun r H' => r = none ∧ ∃ b2 : Int64, H' = [ar .byte vs, Bz (.ref 2) 0 (o + 14) N 0 b2 (Tl lim 0 1 0 0 0 0 0 0 0 0 0), ar .int []]) := by
  obtain ⟨x4, x5, x6, x7, x8, x9, x10, x11, x12, x13, -⟩ := hx
  refine Met.of_go hw (plainFor_of_name pn_2) (L0 := [.val (.ref 1), .unset, .unset, .unset]) rfl ?_
  intro p e s m args below meth c C
  refine go_aloadN e7_0 rfl rfl ?_
  refine go_bipush e7_1 (x := 24) rfl ?_
  refine go_private_1 e7_3 (Or.inl (wd 24 rfl)) (wd 26 rfl) (wd 2 rfl) (wd 25 rfl) (wd 27 rfl) (wd 3 rfl) hy_3 pd_16 rfl (c_bits hw (j := o + 4) (n := 24) (k := 0) (k2 := 0) (xs := [23, 114, 69]) (R := 1536581) (V2 := 0) (j2 := (o + 7)) rfl rfl ⟨x4, x5, x6, trivial⟩ hv (fun i hi => by simp only [List.length_cons, List.length_nil] at hi; omega) (by simp only [List.length_cons, List.length_nil]; omega) rfl (by decide) (by omega) (by decide) (by decide) (by decide) (by decide) (by decide) (by decide) rfl) rfl rfl 0 rfl (by decide) (by decide) (by decide) (by decide) ?_
  rintro _ _ ⟨b1, rfl, hb1, rfl⟩
  try simp only [List.replicate_succ, List.replicate_zero, List.set_cons_zero, List.set_cons_succ, List.length_nil, List.length_cons, Nat.zero_add, Nat.reduceAdd, List.nil_append, List.cons_append]
  refine go_i2l e7_6 ?_
  refine go_bipush e7_7 (x := 24) rfl ?_
  refine go_lshl e7_9 ?_
  refine go_aloadN e7_10 rfl rfl ?_
  refine go_bipush e7_11 (x := 24) rfl ?_
  refine go_private_1 e7_13 (Or.inl (wd 24 rfl)) (wd 26 rfl) (wd 2 rfl) (wd 25 rfl) (wd 27 rfl) (wd 3 rfl) hy_3 pd_16 rfl (c_bits hw (j := o + 7) (n := 24) (k := 0) (k2 := 0) (xs := [56, 80, -112]) (R := 3690640) (V2 := 0) (j2 := (o + 10)) rfl rfl ⟨x7, x8, x9, trivial⟩ hb1 (fun i hi => by simp only [List.length_cons, List.length_nil] at hi; omega) (by simp only [List.length_cons, List.length_nil]; omega) rfl (by decide) (by omega) (by decide) (by decide) (by decide) (by decide) (by decide) (by decide) rfl) rfl rfl 2 rfl (by decide) (by decide) (by decide) (by decide) ?_
  rintro _ _ ⟨b2, rfl, hb2, rfl⟩
  try simp only [List.replicate_succ, List.replicate_zero, List.set_cons_zero, List.set_cons_succ, List.length_nil, List.length_cons, Nat.zero_add, Nat.reduceAdd, List.nil_append, List.cons_append]
  refine go_i2l e7_16 ?_
  refine go_lor e7_17 ?_
  refine go_lstore_1 e7_18 (Or.inl rfl) rfl ?_
  refine go_lloadN e7_19 rfl ?_
  refine go_ldc2 e7_20 (wd 47 rfl) ?_
  refine go_lcne e7_23 e7_24 (tg := 56) (by decide) ?_ ?_
  · intro c24
    exact absurd (by decide) c24
  · intro c24
    refine go_aloadN e7_27 rfl rfl ?_
    refine go_bipush e7_28 (x := 32) rfl ?_
    refine go_private_1 e7_30 (Or.inl (wd 24 rfl)) (wd 26 rfl) (wd 2 rfl) (wd 25 rfl) (wd 27 rfl) (wd 3 rfl) hy_3 pd_16 rfl (c_bits hw (j := o + 10) (n := 32) (k := 0) (k2 := 0) (xs := [0, 0, 0, 0]) (R := 0) (V2 := 0) (j2 := (o + 14)) rfl rfl ⟨x10, x11, x12, x13, trivial⟩ hb2 (fun i hi => by simp only [List.length_cons, List.length_nil] at hi; omega) (by simp only [List.length_cons, List.length_nil]; omega) rfl (by decide) (by omega) (by decide) (by decide) (by decide) (by decide) (by decide) (by decide) rfl) rfl rfl 0 rfl (by decide) (by decide) (by decide) (by decide) ?_
    rintro _ _ ⟨b3, rfl, hb3, rfl⟩
    try simp only [List.replicate_succ, List.replicate_zero, List.set_cons_zero, List.set_cons_succ, List.length_nil, List.length_cons, Nat.zero_add, Nat.reduceAdd, List.nil_append, List.cons_append]
    refine go_aloadN e7_33 rfl rfl ?_
    refine go_getfield e7_34 (wd 48 rfl) rfl (j := 7) rfl ?_
    refine go_iceqY e7_37 (tg := 50) (by decide) (by decide) ?_
    refine go_aloadN e7_50 rfl rfl ?_
    refine go_iconst e7_51 (x := 1) rfl ?_
    refine go_putfield e7_52 (wd 50 rfl) (Or.inl (wd 51 rfl)) (wd 2 rfl) pf_28 rfl (j := 8) rfl rfl rfl ?_
    simp only [List.replicate_succ, List.replicate_zero, List.set_cons_zero, List.set_cons_succ, List.length_nil, List.length_cons, Nat.zero_add, Nat.reduceAdd, List.nil_append, List.cons_append]
    refine go_return e7_55 rfl (by decide) (by decide) ?_
    exact ⟨rfl, b3, rfl⟩
set_option maxRecDepth 65536 in
set_option maxHeartbeats 4000000 in
theorem c_is {l : Launch} {Z : State} {a0 : Array Value} {b : Nat} (hw : ∀ d ∈ tables_1, d.before a0 Z = true) {H : List GCell} {i : Nat} :
    Met l Z a0 b (⟨"java/io/InputStream", "<init>", "()V"⟩ : MethodName) jdk_2022_method_1_code 1 none ({ frames := 1, cells := 0, slots := 0, locals := 12 } : Room) [.ref i] H (fun r H' => r = none ∧ H' = H) := by
  refine Met.of_go hw (plainFor_of_name pn_29) (L0 := [.val (.ref i)]) rfl ?_
  intro p e s m args below meth c C
  refine go_aloadN e2_0 rfl rfl ?_
  refine go_initO (C := C) e2_1 (wd 12 rfl) (wd 13 rfl) (wd (W := tables_1) 14 rfl) rfl (by decide) 0 (by decide) (by decide) ?_
  refine go_return e2_4 rfl (by decide) (by decide) ?_
  exact ⟨rfl, rfl⟩
set_option maxRecDepth 65536 in
set_option maxHeartbeats 4000000 in
theorem c_ib {l : Launch} {Z : State} {a0 : Array Value} {b : Nat} (hw : ∀ d ∈ tables_1, d.before a0 Z = true) {o N t ln L : Nat} {vs : List Value} {d0 d1 d2 d3 y0 y1 y2 y3 y4 y5 y6 y7 lv : Int32} (hM : o + ln = N) (hN : N = o + 26 + t) (ho : o ≤ 100) (ht : t ≤ 100) (hL : L ≤ 8) (hlv : accL 0 [lv] / 2 ^ 0 = 49 + L) (hx : Nx vs o (66 :: 90 :: 104 :: lv :: 49 :: 65 :: 89 :: 38 :: 83 :: 89 :: d0 :: d1 :: d2 :: d3 :: 0 :: 0 :: 0 :: 64 :: 0 :: 64 :: 0 :: 32 :: 0 :: 33 :: 1 :: 2 :: y0 :: y1 :: y2 :: y3 :: y4 :: y5 :: y6 :: y7 :: [])) :
    Met l Z a0 b (⟨"com/example/deltaweave/deltaweave/format/Bzip2InputStream", "<init>", "([BII)V"⟩ : MethodName) prog_14_method_1_code 5 none ({ frames := 5, cells := 25, slots := 68295, locals := 100 } : Room) [.ref 1, .ref 0, .int (Int32.ofNat o), .int (Int32.ofNat ln)] [ar .byte vs, ob "com/example/deltaweave/deltaweave/format/Bzip2InputStream" [("block", "[I", .null), ("input", "[B", .null), ("inputNext", "I", .int 0), ("inputEnd", "I", .int 0), ("bitCount", "I", .int 0), ("bitBuffer", "J", .long 0), ("blockSizeLimit", "I", .int 0), ("streamCrc", "I", .int 0), ("ended", "Z", .int 0), ("blockNumber", "I", .int 0), ("blockCrc", "I", .int 0), ("blockLength", "I", .int 0), ("position", "I", .int 0), ("blockRead", "I", .int 0), ("crc", "I", .int 0), ("lastByte", "I", .int 0), ("equalBytes", "I", .int 0), ("repeats", "I", .int 0)]] (fun r H' => r = none ∧ ∃ (blk : Value) (j2 k2 : Nat) (b2 : Int64) (lim sc bn bcr bl po br cr lb eb rp : Int32), H'[1]? = some (Bz blk 0 j2 N k2 b2 (Tl lim sc 0 bn bcr bl po br cr lb eb rp))) := by
  refine Met.of_go hw (plainFor_of_name pn_2) (L0 := [.val (.ref 1), .val (.ref 0), .val (.int (Int32.ofNat o)), .val (.int (Int32.ofNat ln)), .unset]) rfl ?_
  intro p e s m args below meth c C
  refine go_aloadN e1_0 rfl rfl ?_
  refine go_specialV_0 rfl e1_1 (wd 7 rfl) (wd 8 rfl) (wd 11 rfl) (wd 10 rfl) hy_30 pd_27 rfl (c_is hw) rfl 0 rfl (by decide) (by decide) (by decide) (by decide) ?_
  rintro _ rfl
  try simp only [List.replicate_succ, List.replicate_zero, List.set_cons_zero, List.set_cons_succ, List.length_nil, List.length_cons, Nat.zero_add, Nat.reduceAdd, List.nil_append, List.cons_append]
  refine go_aloadN e1_4 rfl rfl ?_
  refine go_iconst e1_5 (x := 0) rfl ?_
  refine go_newarray e1_6 (wd 15 rfl) (k := 0) rfl (vs := []) rfl (cap := 0) (by decide) (by decide) (by decide) (by decide) ?_
  simp only [List.replicate_succ, List.replicate_zero, List.set_cons_zero, List.set_cons_succ, List.length_nil, List.length_cons, Nat.zero_add, Nat.reduceAdd, List.nil_append, List.cons_append]
  refine go_putfield e1_8 (wd 16 rfl) (Or.inl (wd 17 rfl)) (wd 2 rfl) pf_13 rfl (j := 0) rfl rfl rfl ?_
  simp only [List.replicate_succ, List.replicate_zero, List.set_cons_zero, List.set_cons_succ, List.length_nil, List.length_cons, Nat.zero_add, Nat.reduceAdd, List.nil_append, List.cons_append]
  refine go_aloadN e1_11 rfl rfl ?_
  refine go_aloadN e1_12 rfl rfl ?_
  refine go_putfield e1_13 (wd 18 rfl) (Or.inr ⟨(wd 19 rfl), rfl, rfl⟩) (wd 2 rfl) pf_31 rfl (j := 1) rfl rfl rfl ?_
  simp only [List.replicate_succ, List.replicate_zero, List.set_cons_zero, List.set_cons_succ, List.length_nil, List.length_cons, Nat.zero_add, Nat.reduceAdd, List.nil_append, List.cons_append]
  refine go_aloadN e1_16 rfl rfl ?_
  refine go_iloadN e1_17 rfl ?_
  refine go_putfield e1_18 (wd 20 rfl) (Or.inl (wd 21 rfl)) (wd 2 rfl) pf_0 rfl (j := 2) rfl rfl rfl ?_
  simp only [List.replicate_succ, List.replicate_zero, List.set_cons_zero, List.set_cons_succ, List.length_nil, List.length_cons, Nat.zero_add, Nat.reduceAdd, List.nil_append, List.cons_append]
  refine go_aloadN e1_21 rfl rfl ?_
  refine go_iloadN e1_22 rfl ?_
  refine go_iloadN e1_23 rfl ?_
  refine go_iadd e1_24 ?_
  refine go_putfield e1_25 (wd 22 rfl) (Or.inr ⟨(wd 23 rfl), rfl, rfl⟩) (wd 2 rfl) pf_0 rfl (j := 3) rfl rfl rfl ?_
  simp only [List.replicate_succ, List.replicate_zero, List.set_cons_zero, List.set_cons_succ, List.length_nil, List.length_cons, Nat.zero_add, Nat.reduceAdd, List.nil_append, List.cons_append]
  rw [← Int32.ofNat_add, hM]
  refine go_aloadN e1_28 rfl rfl ?_
  refine go_bipush e1_29 (x := 8) rfl ?_
  refine go_private_1 e1_31 (Or.inl (wd 24 rfl)) (wd 26 rfl) (wd 2 rfl) (wd 25 rfl) (wd 27 rfl) (wd 3 rfl) hy_3 pd_16 rfl (c_bits hw (j := o + 0) (n := 8) (k := 0) (k2 := 0) (xs := [66]) (R := 66) (V2 := 0) (j2 := (o + 1)) rfl rfl ⟨hx.1, trivial⟩ (show (0 : Int64).toBitVec.toNat % 2 ^ 0 = 0 by decide) (fun i hi => by simp only [List.length_cons, List.length_nil] at hi; omega) (by simp only [List.length_cons, List.length_nil]; omega) rfl (by decide) (by omega) (by decide) (by decide) (by decide) (by decide) (by decide) (by decide) rfl) rfl rfl 0 rfl (by decide) (by decide) (by decide) (by decide) ?_
  rintro _ _ ⟨b1, rfl, hb1, rfl⟩
  try simp only [List.replicate_succ, List.replicate_zero, List.set_cons_zero, List.set_cons_succ, List.length_nil, List.length_cons, Nat.zero_add, Nat.reduceAdd, List.nil_append, List.cons_append]
  refine go_bipush e1_34 (x := 66) rfl ?_
  refine go_icneN e1_36 (tg := 61) (by decide) (by decide) ?_
  refine go_aloadN e1_39 rfl rfl ?_
  refine go_bipush e1_40 (x := 8) rfl ?_
  refine go_private_1 e1_42 (Or.inl (wd 24 rfl)) (wd 26 rfl) (wd 2 rfl) (wd 25 rfl) (wd 27 rfl) (wd 3 rfl) hy_3 pd_16 rfl (c_bits hw (j := o + 1) (n := 8) (k := 0) (k2 := 0) (xs := [90]) (R := 90) (V2 := 0) (j2 := (o + 2)) rfl rfl ⟨hx.2.1, trivial⟩ hb1 (fun i hi => by simp only [List.length_cons, List.length_nil] at hi; omega) (by simp only [List.length_cons, List.length_nil]; omega) rfl (by decide) (by omega) (by decide) (by decide) (by decide) (by decide) (by decide) (by decide) rfl) rfl rfl 0 rfl (by decide) (by decide) (by decide) (by decide) ?_
  rintro _ _ ⟨b2, rfl, hb2, rfl⟩
  try simp only [List.replicate_succ, List.replicate_zero, List.set_cons_zero, List.set_cons_succ, List.length_nil, List.length_cons, Nat.zero_add, Nat.reduceAdd, List.nil_append, List.cons_append]
  refine go_bipush e1_45 (x := 90) rfl ?_
  refine go_icneN e1_47 (tg := 61) (by decide) (by decide) ?_
  refine go_aloadN e1_50 rfl rfl ?_
  refine go_bipush e1_51 (x := 8) rfl ?_
  refine go_private_1 e1_53 (Or.inl (wd 24 rfl)) (wd 26 rfl) (wd 2 rfl) (wd 25 rfl) (wd 27 rfl) (wd 3 rfl) hy_3 pd_16 rfl (c_bits hw (j := o + 2) (n := 8) (k := 0) (k2 := 0) (xs := [104]) (R := 104) (V2 := 0) (j2 := (o + 3)) rfl rfl ⟨hx.2.2.1, trivial⟩ hb2 (fun i hi => by simp only [List.length_cons, List.length_nil] at hi; omega) (by simp only [List.length_cons, List.length_nil]; omega) rfl (by decide) (by omega) (by decide) (by decide) (by decide) (by decide) (by decide) (by decide) rfl) rfl rfl 0 rfl (by decide) (by decide) (by decide) (by decide) ?_
  rintro _ _ ⟨b3, rfl, hb3, rfl⟩
  try simp only [List.replicate_succ, List.replicate_zero, List.set_cons_zero, List.set_cons_succ, List.length_nil, List.length_cons, Nat.zero_add, Nat.reduceAdd, List.nil_append, List.cons_append]
  refine go_bipush e1_56 (x := 104) rfl ?_
  refine go_iceqY e1_58 (tg := 71) (by decide) (by decide) ?_
  refine go_aloadN e1_71 rfl rfl ?_
  refine go_bipush e1_72 (x := 8) rfl ?_
  refine go_private_1 e1_74 (Or.inl (wd 24 rfl)) (wd 26 rfl) (wd 2 rfl) (wd 25 rfl) (wd 27 rfl) (wd 3 rfl) hy_3 pd_16 rfl (c_bits hw (j := o + 3) (n := 8) (k := 0) (k2 := 0) (xs := [lv]) (R := (49 + L)) (V2 := 0) (j2 := (o + 4)) rfl rfl ⟨hx.2.2.2.1, trivial⟩ hb3 (fun i hi => by simp only [List.length_cons, List.length_nil] at hi; omega) (by simp only [List.length_cons, List.length_nil]; omega) rfl (by decide) (by omega) (by decide) (by decide) (by decide) (by decide) hlv (Nat.mod_one _) rfl) rfl rfl 0 rfl (by decide) (by decide) (by decide) (by decide) ?_
  rintro _ _ ⟨b4, rfl, hb4, rfl⟩
  try simp only [List.replicate_succ, List.replicate_zero, List.set_cons_zero, List.set_cons_succ, List.length_nil, List.length_cons, Nat.zero_add, Nat.reduceAdd, List.nil_append, List.cons_append]
  refine go_bipush e1_77 (x := 48) rfl ?_
  refine go_isub e1_79 ?_
  refine go_istoreX_4 e1_80 rfl ?_
  intro q4 hq4
  have k4 := own_lv hL hq4
  refine go_iload e1_82 rfl ?_
  refine go_iconst e1_84 (x := 1) rfl ?_
  refine go_icltN e1_85 (tg := 95) (by decide) (by rw [k4]; have k1 : (1 : Int32).toInt = 1 := rfl; omega) ?_
  refine go_iload e1_88 rfl ?_
  refine go_bipush e1_90 (x := 9) rfl ?_
  refine go_icleY e1_92 (tg := 110) (by decide) (by rw [k4]; have k1 : (9 : Int32).toInt = 9 := rfl; omega) ?_
  refine go_aloadN e1_110 rfl rfl ?_
  refine go_iload e1_111 rfl ?_
  refine go_ldc e1_113 (wd 40 rfl) ?_
  refine go_imul e1_115 ?_
  refine go_putfield e1_116 (wd 41 rfl) (Or.inr ⟨(wd 42 rfl), rfl, rfl⟩) (wd 2 rfl) pf_0 rfl (j := 6) rfl rfl rfl ?_
  simp only [List.replicate_succ, List.replicate_zero, List.set_cons_zero, List.set_cons_succ, List.length_nil, List.length_cons, Nat.zero_add, Nat.reduceAdd, List.nil_append, List.cons_append]
  refine go_aloadN e1_119 rfl rfl ?_
  refine go_privateV_0 e1_120 (Or.inl (wd 43 rfl)) (wd 45 rfl) (wd 2 rfl) (wd 44 rfl) (wd 46 rfl) (wd 3 rfl) hy_3 pd_27 rfl (c_nb hw hN ho ht hx.2.2.2.2 hb4 (own_lim2 hL k4)) rfl rfl 0 rfl (by decide) (by decide) (by decide) (by decide) ?_
  rintro H1 ⟨e1, e2, e3, e4, e5, e6, e7, e8, e9, e10, e11, e12, e13, e14, e15, g1⟩
  try simp only [List.replicate_succ, List.replicate_zero, List.set_cons_zero, List.set_cons_succ, List.length_nil, List.length_cons, Nat.zero_add, Nat.reduceAdd, List.nil_append, List.cons_append]
  refine go_return e1_123 rfl (by decide) (by decide) ?_
  exact ⟨rfl, _, _, _, _, _, _, _, _, _, _, _, _, _, _, _, g1⟩
set_option maxRecDepth 65536 in
set_option maxHeartbeats 4000000 in
theorem c_in {l : Launch} {Z : State} {a0 : Array Value} {b : Nat} (hw : ∀ d ∈ tables_1, d.before a0 Z = true) {o N t ln L : Nat} {vs : List Value} {lv : Int32} (hM : o + ln = N) (hN : N = o + 14 + t) (ho : o ≤ 100) (ht : t ≤ 100) (hL : L ≤ 8) (hlv : accL 0 [lv] / 2 ^ 0 = 49 + L) (hx : Nx vs o (66 :: 90 :: 104 :: lv :: 23 :: 114 :: 69 :: 56 :: 80 :: (-112) :: 0 :: 0 :: 0 :: 0 :: [])) :
    Met l Z a0 b (⟨"com/example/deltaweave/deltaweave/format/Bzip2InputStream", "<init>", "([BII)V"⟩ : MethodName) prog_14_method_1_code 5 none ({ frames := 5, cells := 25, slots := 68295, locals := 100 } : Room) [.ref 1, .ref 0, .int (Int32.ofNat o), .int (Int32.ofNat ln)] [ar .byte vs, ob "com/example/deltaweave/deltaweave/format/Bzip2InputStream" [("block", "[I", .null), ("input", "[B", .null), ("inputNext", "I", .int 0), ("inputEnd", "I", .int 0), ("bitCount", "I", .int 0), ("bitBuffer", "J", .long 0), ("blockSizeLimit", "I", .int 0), ("streamCrc", "I", .int 0), ("ended", "Z", .int 0), ("blockNumber", "I", .int 0), ("blockCrc", "I", .int 0), ("blockLength", "I", .int 0), ("position", "I", .int 0), ("blockRead", "I", .int 0), ("crc", "I", .int 0), ("lastByte", "I", .int 0), ("equalBytes", "I", .int 0), ("repeats", "I", .int 0)]] (fun r H' => r = none ∧ ∃ (b2 : Int64) (lim : Int32), H' = [ar .byte vs, Bz (.ref 2) 0 (o + 14) N 0 b2 (Tl lim 0 1 0 0 0 0 0 0 0 0 0), ar .int []]) := by
  refine Met.of_go hw (plainFor_of_name pn_2) (L0 := [.val (.ref 1), .val (.ref 0), .val (.int (Int32.ofNat o)), .val (.int (Int32.ofNat ln)), .unset]) rfl ?_
  intro p e s m args below meth c C
  refine go_aloadN e1_0 rfl rfl ?_
  refine go_specialV_0 rfl e1_1 (wd 7 rfl) (wd 8 rfl) (wd 11 rfl) (wd 10 rfl) hy_30 pd_27 rfl (c_is hw) rfl 0 rfl (by decide) (by decide) (by decide) (by decide) ?_
  rintro _ rfl
  try simp only [List.replicate_succ, List.replicate_zero, List.set_cons_zero, List.set_cons_succ, List.length_nil, List.length_cons, Nat.zero_add, Nat.reduceAdd, List.nil_append, List.cons_append]
  refine go_aloadN e1_4 rfl rfl ?_
  refine go_iconst e1_5 (x := 0) rfl ?_
  refine go_newarray e1_6 (wd 15 rfl) (k := 0) rfl (vs := []) rfl (cap := 0) (by decide) (by decide) (by decide) (by decide) ?_
  simp only [List.replicate_succ, List.replicate_zero, List.set_cons_zero, List.set_cons_succ, List.length_nil, List.length_cons, Nat.zero_add, Nat.reduceAdd, List.nil_append, List.cons_append]
  refine go_putfield e1_8 (wd 16 rfl) (Or.inl (wd 17 rfl)) (wd 2 rfl) pf_13 rfl (j := 0) rfl rfl rfl ?_
  simp only [List.replicate_succ, List.replicate_zero, List.set_cons_zero, List.set_cons_succ, List.length_nil, List.length_cons, Nat.zero_add, Nat.reduceAdd, List.nil_append, List.cons_append]
  refine go_aloadN e1_11 rfl rfl ?_
  refine go_aloadN e1_12 rfl rfl ?_
  refine go_putfield e1_13 (wd 18 rfl) (Or.inr ⟨(wd 19 rfl), rfl, rfl⟩) (wd 2 rfl) pf_31 rfl (j := 1) rfl rfl rfl ?_
  simp only [List.replicate_succ, List.replicate_zero, List.set_cons_zero, List.set_cons_succ, List.length_nil, List.length_cons, Nat.zero_add, Nat.reduceAdd, List.nil_append, List.cons_append]
  refine go_aloadN e1_16 rfl rfl ?_
  refine go_iloadN e1_17 rfl ?_
  refine go_putfield e1_18 (wd 20 rfl) (Or.inl (wd 21 rfl)) (wd 2 rfl) pf_0 rfl (j := 2) rfl rfl rfl ?_
  simp only [List.replicate_succ, List.replicate_zero, List.set_cons_zero, List.set_cons_succ, List.length_nil, List.length_cons, Nat.zero_add, Nat.reduceAdd, List.nil_append, List.cons_append]
  refine go_aloadN e1_21 rfl rfl ?_
  refine go_iloadN e1_22 rfl ?_
  refine go_iloadN e1_23 rfl ?_
  refine go_iadd e1_24 ?_
  refine go_putfield e1_25 (wd 22 rfl) (Or.inr ⟨(wd 23 rfl), rfl, rfl⟩) (wd 2 rfl) pf_0 rfl (j := 3) rfl rfl rfl ?_
  simp only [List.replicate_succ, List.replicate_zero, List.set_cons_zero, List.set_cons_succ, List.length_nil, List.length_cons, Nat.zero_add, Nat.reduceAdd, List.nil_append, List.cons_append]
  rw [← Int32.ofNat_add, hM]
  refine go_aloadN e1_28 rfl rfl ?_
  refine go_bipush e1_29 (x := 8) rfl ?_
  refine go_private_1 e1_31 (Or.inl (wd 24 rfl)) (wd 26 rfl) (wd 2 rfl) (wd 25 rfl) (wd 27 rfl) (wd 3 rfl) hy_3 pd_16 rfl (c_bits hw (j := o + 0) (n := 8) (k := 0) (k2 := 0) (xs := [66]) (R := 66) (V2 := 0) (j2 := (o + 1)) rfl rfl ⟨hx.1, trivial⟩ (show (0 : Int64).toBitVec.toNat % 2 ^ 0 = 0 by decide) (fun i hi => by simp only [List.length_cons, List.length_nil] at hi; omega) (by simp only [List.length_cons, List.length_nil]; omega) rfl (by decide) (by omega) (by decide) (by decide) (by decide) (by decide) (by decide) (by decide) rfl) rfl rfl 0 rfl (by decide) (by decide) (by decide) (by decide) ?_
  rintro _ _ ⟨b1, rfl, hb1, rfl⟩
  try simp only [List.replicate_succ, List.replicate_zero, List.set_cons_zero, List.set_cons_succ, List.length_nil, List.length_cons, Nat.zero_add, Nat.reduceAdd, List.nil_append, List.cons_append]
  refine go_bipush e1_34 (x := 66) rfl ?_
  refine go_icneN e1_36 (tg := 61) (by decide) (by decide) ?_
  refine go_aloadN e1_39 rfl rfl ?_
  refine go_bipush e1_40 (x := 8) rfl ?_
  refine go_private_1 e1_42 (Or.inl (wd 24 rfl)) (wd 26 rfl) (wd 2 rfl) (wd 25 rfl) (wd 27 rfl) (wd 3 rfl) hy_3 pd_16 rfl (c_bits hw (j := o + 1) (n := 8) (k := 0) (k2 := 0) (xs := [90]) (R := 90) (V2 := 0) (j2 := (o + 2)) rfl rfl ⟨hx.2.1, trivial⟩ hb1 (fun i hi => by simp only [List.length_cons, List.length_nil] at hi; omega) (by simp only [List.length_cons, List.length_nil]; omega) rfl (by decide) (by omega) (by decide) (by decide) (by decide) (by decide) (by decide) (by decide) rfl) rfl rfl 0 rfl (by decide) (by decide) (by decide) (by decide) ?_
  rintro _ _ ⟨b2, rfl, hb2, rfl⟩
  try simp only [List.replicate_succ, List.replicate_zero, List.set_cons_zero, List.set_cons_succ, List.length_nil, List.length_cons, Nat.zero_add, Nat.reduceAdd, List.nil_append, List.cons_append]
  refine go_bipush e1_45 (x := 90) rfl ?_
  refine go_icneN e1_47 (tg := 61) (by decide) (by decide) ?_
  refine go_aloadN e1_50 rfl rfl ?_
  refine go_bipush e1_51 (x := 8) rfl ?_
  refine go_private_1 e1_53 (Or.inl (wd 24 rfl)) (wd 26 rfl) (wd 2 rfl) (wd 25 rfl) (wd 27 rfl) (wd 3 rfl) hy_3 pd_16 rfl (c_bits hw (j := o + 2) (n := 8) (k := 0) (k2 := 0) (xs := [104]) (R := 104) (V2 := 0) (j2 := (o + 3)) rfl rfl ⟨hx.2.2.1, trivial⟩ hb2 (fun i hi => by simp only [List.length_cons, List.length_nil] at hi; omega) (by simp only [List.length_cons, List.length_nil]; omega) rfl (by decide) (by omega) (by decide) (by decide) (by decide) (by decide) (by decide) (by decide) rfl) rfl rfl 0 rfl (by decide) (by decide) (by decide) (by decide) ?_
  rintro _ _ ⟨b3, rfl, hb3, rfl⟩
  try simp only [List.replicate_succ, List.replicate_zero, List.set_cons_zero, List.set_cons_succ, List.length_nil, List.length_cons, Nat.zero_add, Nat.reduceAdd, List.nil_append, List.cons_append]
  refine go_bipush e1_56 (x := 104) rfl ?_
  refine go_iceqY e1_58 (tg := 71) (by decide) (by decide) ?_
  refine go_aloadN e1_71 rfl rfl ?_
  refine go_bipush e1_72 (x := 8) rfl ?_
  refine go_private_1 e1_74 (Or.inl (wd 24 rfl)) (wd 26 rfl) (wd 2 rfl) (wd 25 rfl) (wd 27 rfl) (wd 3 rfl) hy_3 pd_16 rfl (c_bits hw (j := o + 3) (n := 8) (k := 0) (k2 := 0) (xs := [lv]) (R := (49 + L)) (V2 := 0) (j2 := (o + 4)) rfl rfl ⟨hx.2.2.2.1, trivial⟩ hb3 (fun i hi => by simp only [List.length_cons, List.length_nil] at hi; omega) (by simp only [List.length_cons, List.length_nil]; omega) rfl (by decide) (by omega) (by decide) (by decide) (by decide) (by decide) hlv (Nat.mod_one _) rfl) rfl rfl 0 rfl (by decide) (by decide) (by decide) (by decide) ?_
  rintro _ _ ⟨b4, rfl, hb4, rfl⟩
  try simp only [List.replicate_succ, List.replicate_zero, List.set_cons_zero, List.set_cons_succ, List.length_nil, List.length_cons, Nat.zero_add, Nat.reduceAdd, List.nil_append, List.cons_append]
  refine go_bipush e1_77 (x := 48) rfl ?_
  refine go_isub e1_79 ?_
  refine go_istoreX_4 e1_80 rfl ?_
  intro q4 hq4
  have k4 := own_lv hL hq4
  refine go_iload e1_82 rfl ?_
  refine go_iconst e1_84 (x := 1) rfl ?_
  refine go_icltN e1_85 (tg := 95) (by decide) (by rw [k4]; have k1 : (1 : Int32).toInt = 1 := rfl; omega) ?_
  refine go_iload e1_88 rfl ?_
  refine go_bipush e1_90 (x := 9) rfl ?_
  refine go_icleY e1_92 (tg := 110) (by decide) (by rw [k4]; have k1 : (9 : Int32).toInt = 9 := rfl; omega) ?_
  refine go_aloadN e1_110 rfl rfl ?_
  refine go_iload e1_111 rfl ?_
  refine go_ldc e1_113 (wd 40 rfl) ?_
  refine go_imul e1_115 ?_
  refine go_putfield e1_116 (wd 41 rfl) (Or.inr ⟨(wd 42 rfl), rfl, rfl⟩) (wd 2 rfl) pf_0 rfl (j := 6) rfl rfl rfl ?_
  simp only [List.replicate_succ, List.replicate_zero, List.set_cons_zero, List.set_cons_succ, List.length_nil, List.length_cons, Nat.zero_add, Nat.reduceAdd, List.nil_append, List.cons_append]
  refine go_aloadN e1_119 rfl rfl ?_
  refine go_privateV_0 e1_120 (Or.inl (wd 43 rfl)) (wd 45 rfl) (wd 2 rfl) (wd 44 rfl) (wd 46 rfl) (wd 3 rfl) hy_3 pd_27 rfl (c_nn hw hN ho ht hx.2.2.2.2 hb4) rfl rfl 0 rfl (by decide) (by decide) (by decide) (by decide) ?_
  rintro _ ⟨b5, rfl⟩
  try simp only [List.replicate_succ, List.replicate_zero, List.set_cons_zero, List.set_cons_succ, List.length_nil, List.length_cons, Nat.zero_add, Nat.reduceAdd, List.nil_append, List.cons_append]
  refine go_return e1_123 rfl (by decide) (by decide) ?_
  exact ⟨rfl, _, _, rfl⟩
set_option maxRecDepth 65536 in
set_option maxHeartbeats 4000000 in
theorem c_unb {l : Launch} {Z : State} {a0 : Array Value} {b : Nat} (hw : ∀ d ∈ tables_1, d.before a0 Z = true) {H : List GCell} {q ip j N k : Nat} {bb : Int64} {blk : Value} {lim sc bn bcr bl po br cr lb eb rp : Int32} (hq : H[q]? = some (Bz blk ip j N k bb (Tl lim sc 0 bn bcr bl po br cr lb eb rp))) :
    Met l Z a0 b (⟨"com/example/deltaweave/deltaweave/format/Bzip2InputStream", "unusedBytes", "()I"⟩ : MethodName) prog_14_method_4_code 1 (some .int) ({ frames := 0, cells := 0, slots := 0, locals := 0 } : Room) [.ref q] H (fun r H' => ∃ u, r = some u ∧ (u = .int 0 ∧ H' = H)) := by
  refine Met.of_go hw (plainFor_of_name pn_2) (L0 := [.val (.ref q)]) rfl ?_
  intro p e s m args below meth c C
  refine go_aloadN e8_0 rfl rfl ?_
  refine go_getfield e8_1 (wd 50 rfl) hq (j := 8) rfl ?_
  refine go_ifeqY e8_4 (tg := 27) (by decide) (by decide) ?_
  refine go_iconst e8_27 (x := 0) rfl ?_
  refine go_ireturn e8_28 rfl (by decide) (by decide) ?_
  exact ⟨_, rfl, rfl, rfl⟩
set_option maxRecDepth 65536 in
set_option maxHeartbeats 4000000 in
theorem c_unn {l : Launch} {Z : State} {a0 : Array Value} {b : Nat} (hw : ∀ d ∈ tables_1, d.before a0 Z = true) {H : List GCell} {q ip j t : Nat} {bb : Int64} {blk : Value} {lim sc bn bcr bl po br cr lb eb rp : Int32} (hq : H[q]? = some (Bz blk ip j (j + t) 0 bb (Tl lim sc 1 bn bcr bl po br cr lb eb rp))) :
    Met l Z a0 b (⟨"com/example/deltaweave/deltaweave/format/Bzip2InputStream", "unusedBytes", "()I"⟩ : MethodName) prog_14_method_4_code 1 (some .int) ({ frames := 0, cells := 0, slots := 0, locals := 0 } : Room) [.ref q] H (fun r H' => ∃ u, r = some u ∧ (u = .int (Int32.ofNat t) ∧ H' = H)) := by
  refine Met.of_go hw (plainFor_of_name pn_2) (L0 := [.val (.ref q)]) rfl ?_
  intro p e s m args below meth c C
  refine go_aloadN e8_0 rfl rfl ?_
  refine go_getfield e8_1 (wd 50 rfl) hq (j := 8) rfl ?_
  refine go_ifeqN e8_4 (tg := 27) (by decide) (by decide) ?_
  refine go_aloadN e8_7 rfl rfl ?_
  refine go_getfield e8_8 (wd 22 rfl) hq (j := 3) rfl ?_
  refine go_aloadN e8_11 rfl rfl ?_
  refine go_getfield e8_12 (wd 20 rfl) hq (j := 2) rfl ?_
  refine go_isub e8_15 ?_
  refine go_aloadN e8_16 rfl rfl ?_
  refine go_getfield e8_17 (wd 32 rfl) hq (j := 4) rfl ?_
  refine go_bipush e8_20 (x := 8) rfl ?_
  refine go_idiv e8_22 (by decide) ?_
  refine go_iadd e8_23 ?_
  refine go_goto e8_24 (tg := 28) (by decide) ?_
  refine go_ireturn e8_28 rfl (by decide) (by decide) ?_
  exact ⟨_, rfl, by rw [own_un], rfl⟩
set_option maxRecDepth 65536 in
set_option maxHeartbeats 4000000 in
theorem law_tb {l : Launch} {Z : State} {a0 : Array Value} {b : Nat} (hw : ∀ d ∈ tables_1, d.before a0 Z = true) {p : Program} {e : Env} {s : State} {m : MethodId} {args : Array Value} {below : List Frame} {meth : Method} {c : Code} (C : Cx p l e room_1 s m args below meth c Z a0 tables_1 b x code maxLocals ret (fun v _ => v = some (.int 1))) {i0 i1 i2 : Int32} {i3 : Int64} {L o t : Nat} (hL : L ≤ 8) (ho : o ≤ 15) (ht : t ≤ 8) {v26 : List Value} {lv d0 d1 d2 d3 : Int32} (hlv : accL 0 [lv] / 2 ^ 0 = 49 + L) (q26 : v26.length = 50) (n26 : Nx v26 o (66 :: 90 :: 104 :: lv :: 49 :: 65 :: 89 :: 38 :: 83 :: 89 :: d0 :: d1 :: d2 :: d3 :: 0 :: 0 :: 0 :: 64 :: 0 :: 64 :: 0 :: 32 :: 0 :: 33 :: 1 :: 2 :: [])) : Go C 408 [.val (.int i0), .val (.int i1), .val (.int i2), .val (.long i3), .second, .val (.int 1), .val (.int (Int32.ofNat L)), .val (.int (Int32.ofNat o)), .val (.int (Int32.ofNat t)), .val (.ref 0), .val (.int 26), .unset, .unset, .unset] [] [ar .byte v26] 1 50 := by
  refine go_iload e0_408 rfl ?_
  refine go_iload e0_410 rfl ?_
  refine go_iadd e0_412 ?_
  refine go_istoreX_11 e0_413 rfl ?_
  intro ee hee
  obtain rfl : ee = Int32.ofNat (o + 26) := by rw [hee, Int32.ofNat_add]; rfl
  refine go_aload e0_415 rfl rfl ?_
  refine go_iload e0_417 rfl ?_
  refine go_lloadN e0_419 rfl ?_
  refine go_l2i e0_420 ?_
  refine go_i2b e0_421 ?_
  refine own_bput e0_422 q26 n26 (kk := 26) rfl (own_ti (by omega)) (by omega) ?_
  intro v27 q27 n27
  simp only [List.cons_append, List.nil_append] at n27
  refine go_aload e0_423 rfl rfl ?_
  refine go_iload e0_425 rfl ?_
  refine go_iconst e0_427 (x := 1) rfl ?_
  refine go_iadd e0_428 ?_
  refine go_lloadN e0_429 rfl ?_
  refine go_bipush e0_430 (x := 8) rfl ?_
  refine go_lushr e0_432 ?_
  refine go_l2i e0_433 ?_
  refine go_i2b e0_434 ?_
  refine own_bput e0_435 q27 n27 (kk := 27) rfl (own_oi (o := o + 26) (i := 1) rfl (by omega)) (by omega) ?_
  intro v28 q28 n28
  simp only [List.cons_append, List.nil_append] at n28
  refine go_aload e0_436 rfl rfl ?_
  refine go_iload e0_438 rfl ?_
  refine go_iconst e0_440 (x := 2) rfl ?_
  refine go_iadd e0_441 ?_
  refine go_lloadN e0_442 rfl ?_
  refine go_bipush e0_443 (x := 16) rfl ?_
  refine go_lushr e0_445 ?_
  refine go_l2i e0_446 ?_
  refine go_i2b e0_447 ?_
  refine own_bput e0_448 q28 n28 (kk := 28) rfl (own_oi (o := o + 26) (i := 2) rfl (by omega)) (by omega) ?_
  intro v29 q29 n29
  simp only [List.cons_append, List.nil_append] at n29
  refine go_aload e0_449 rfl rfl ?_
  refine go_iload e0_451 rfl ?_
  refine go_iconst e0_453 (x := 3) rfl ?_
  refine go_iadd e0_454 ?_
  refine go_lloadN e0_455 rfl ?_
  refine go_bipush e0_456 (x := 24) rfl ?_
  refine go_lushr e0_458 ?_
  refine go_l2i e0_459 ?_
  refine go_i2b e0_460 ?_
  refine own_bput e0_461 q29 n29 (kk := 29) rfl (own_oi (o := o + 26) (i := 3) rfl (by omega)) (by omega) ?_
  intro v30 q30 n30
  simp only [List.cons_append, List.nil_append] at n30
  refine go_aload e0_462 rfl rfl ?_
  refine go_iload e0_464 rfl ?_
  refine go_iconst e0_466 (x := 4) rfl ?_
  refine go_iadd e0_467 ?_
  refine go_lloadN e0_468 rfl ?_
  refine go_bipush e0_469 (x := 32) rfl ?_
  refine go_lushr e0_471 ?_
  refine go_l2i e0_472 ?_
  refine go_i2b e0_473 ?_
  refine own_bput e0_474 q30 n30 (kk := 30) rfl (own_oi (o := o + 26) (i := 4) rfl (by omega)) (by omega) ?_
  intro v31 q31 n31
  simp only [List.cons_append, List.nil_append] at n31
  refine go_aload e0_475 rfl rfl ?_
  refine go_iload e0_477 rfl ?_
  refine go_iconst e0_479 (x := 5) rfl ?_
  refine go_iadd e0_480 ?_
  refine go_lloadN e0_481 rfl ?_
  refine go_bipush e0_482 (x := 40) rfl ?_
  refine go_lushr e0_484 ?_
  refine go_l2i e0_485 ?_
  refine go_i2b e0_486 ?_
  refine own_bput e0_487 q31 n31 (kk := 31) rfl (own_oi (o := o + 26) (i := 5) rfl (by omega)) (by omega) ?_
  intro v32 q32 n32
  simp only [List.cons_append, List.nil_append] at n32
  refine go_aload e0_488 rfl rfl ?_
  refine go_iload e0_490 rfl ?_
  refine go_bipush e0_492 (x := 6) rfl ?_
  refine go_iadd e0_494 ?_
  refine go_lloadN e0_495 rfl ?_
  refine go_bipush e0_496 (x := 48) rfl ?_
  refine go_lushr e0_498 ?_
  refine go_l2i e0_499 ?_
  refine go_i2b e0_500 ?_
  refine own_bput e0_501 q32 n32 (kk := 32) rfl (own_oi (o := o + 26) (i := 6) rfl (by omega)) (by omega) ?_
  intro v33 q33 n33
  simp only [List.cons_append, List.nil_append] at n33
  refine go_aload e0_502 rfl rfl ?_
  refine go_iload e0_504 rfl ?_
  refine go_bipush e0_506 (x := 7) rfl ?_
  refine go_iadd e0_508 ?_
  refine go_lloadN e0_509 rfl ?_
  refine go_bipush e0_510 (x := 56) rfl ?_
  refine go_lushr e0_512 ?_
  refine go_l2i e0_513 ?_
  refine go_i2b e0_514 ?_
  refine own_bput e0_515 q33 n33 (kk := 33) rfl (own_oi (o := o + 26) (i := 7) rfl (by omega)) (by omega) ?_
  intro v34 q34 n34
  simp only [List.cons_append, List.nil_append] at n34
  refine go_new e0_516 (wd 1 rfl) (wd 2 rfl) (wd 3 rfl) (lay_32 hw) nd_33 (by decide) (by decide) ?_
  simp only [List.replicate_succ, List.replicate_zero, List.set_cons_zero, List.set_cons_succ, List.length_nil, List.length_cons, Nat.zero_add, Nat.reduceAdd, List.nil_append, List.cons_append]
  refine go_dup e0_519 rfl ?_
  refine go_aload e0_520 rfl rfl ?_
  refine go_iload e0_522 rfl ?_
  refine go_iload e0_524 rfl ?_
  refine go_iload e0_526 rfl ?_
  refine go_iadd e0_528 ?_
  rw [show (26 : Int32) + Int32.ofNat t = Int32.ofNat (26 + t) from by rw [Int32.ofNat_add]; rfl]
  refine go_specialV_3 rfl e0_529 (wd 4 rfl) (wd 5 rfl) (wd 6 rfl) (wd 3 rfl) hy_3 pd_34 rfl (c_ib hw (N := o + (26 + t)) (t := t) (L := L) rfl (by omega) (by omega) (by omega) hL hlv n34) rfl 1 rfl (by decide) (by decide) (by decide) (by decide) ?_
  rintro H1 ⟨e1, e2, e3, e4, e5, e6, e7, e8, e9, e10, e11, e12, e13, e14, e15, g1⟩
  refine go_astore_12 e0_532 rfl rfl ?_
  refine go_iload e0_534 rfl ?_
  refine go_ifeqN e0_536 (tg := 543) (by decide) (by decide) ?_
  refine go_iconst e0_539 (x := 0) rfl ?_
  refine go_goto e0_540 (tg := 545) (by decide) ?_
  refine go_istore_13 e0_545 rfl ?_
  refine go_aload e0_547 rfl rfl ?_
  refine go_virtual_0 e0_549 (wd 52 rfl) (wd 53 rfl) (wd 55 rfl) (wd 54 rfl) (wd 56 rfl) (wd 3 rfl) hy_3 pd_25 rfl (c_unb hw g1) g1 rfl 0 rfl (by decide) (by decide) (by decide) (by decide) ?_
  rintro _ _ ⟨rfl, rfl⟩
  refine go_iload e0_552 rfl ?_
  refine go_icneN e0_554 (tg := 561) (by decide) (by decide) ?_
  refine go_iconst e0_557 (x := 1) rfl ?_
  refine go_goto e0_558 (tg := 562) (by decide) ?_
  refine go_zreturn e0_562 rfl (by decide) (by decide) (by decide) ?_
  exact rfl
theorem own_cut14 {vs : List Value} {o : Nat} {x0 x1 x2 x3 x4 x5 x6 x7 x8 x9 x10 x11 x12 x13 y0 y1 y2 y3 y4 y5 y6 y7 : Int32} (h : Nx vs o (x0 :: x1 :: x2 :: x3 :: x4 :: x5 :: x6 :: x7 :: x8 :: x9 :: x10 :: x11 :: x12 :: x13 :: y0 :: y1 :: y2 :: y3 :: y4 :: y5 :: y6 :: y7 :: [])) : Nx vs o (x0 :: x1 :: x2 :: x3 :: x4 :: x5 :: x6 :: x7 :: x8 :: x9 :: x10 :: x11 :: x12 :: x13 :: []) :=
  own_cut [x0, x1, x2, x3, x4, x5, x6, x7, x8, x9, x10, x11, x12, x13] [y0, y1, y2, y3, y4, y5, y6, y7] o h

set_option maxRecDepth 65536 in
set_option maxHeartbeats 4000000 in
theorem law_un {l : Launch} {Z : State} {a0 : Array Value} {b : Nat} (hw : ∀ d ∈ tables_1, d.before a0 Z = true) {p : Program} {e : Env} {s : State} {m : MethodId} {args : Array Value} {below : List Frame} {meth : Method} {c : Code} (C : Cx p l e room_1 s m args below meth c Z a0 tables_1 b x code maxLocals ret (fun v _ => v = some (.int 1))) {i0 i1 i2 : Int32} {i3 : Int64} {L o t : Nat} (hL : L ≤ 8) (ho : o ≤ 15) (ht : t ≤ 8) {v22 : List Value} {lv y0 y1 y2 y3 y4 y5 y6 y7 : Int32} (hlv : accL 0 [lv] / 2 ^ 0 = 49 + L) (q22 : v22.length = 50) (n22 : Nx v22 o (66 :: 90 :: 104 :: lv :: 23 :: 114 :: 69 :: 56 :: 80 :: (-112) :: 0 :: 0 :: 0 :: 0 :: y0 :: y1 :: y2 :: y3 :: y4 :: y5 :: y6 :: y7 :: [])) : Go C 516 [.val (.int i0), .val (.int i1), .val (.int i2), .val (.long i3), .second, .val (.int 0), .val (.int (Int32.ofNat L)), .val (.int (Int32.ofNat o)), .val (.int (Int32.ofNat t)), .val (.ref 0), .val (.int 14), .val (.int (Int32.ofNat (o + 14))), .unset, .unset] [] [ar .byte v22] 1 50 := by
  refine go_new e0_516 (wd 1 rfl) (wd 2 rfl) (wd 3 rfl) (lay_32 hw) nd_33 (by decide) (by decide) ?_
  simp only [List.replicate_succ, List.replicate_zero, List.set_cons_zero, List.set_cons_succ, List.length_nil, List.length_cons, Nat.zero_add, Nat.reduceAdd, List.nil_append, List.cons_append]
  refine go_dup e0_519 rfl ?_
  refine go_aload e0_520 rfl rfl ?_
  refine go_iload e0_522 rfl ?_
  refine go_iload e0_524 rfl ?_
  refine go_iload e0_526 rfl ?_
  refine go_iadd e0_528 ?_
  rw [show (14 : Int32) + Int32.ofNat t = Int32.ofNat (14 + t) from by rw [Int32.ofNat_add]; rfl]
  refine go_specialV_3 rfl e0_529 (wd 4 rfl) (wd 5 rfl) (wd 6 rfl) (wd 3 rfl) hy_3 pd_34 rfl (c_in hw (N := o + 14 + t) (t := t) (L := L) (Nat.add_assoc ..).symm rfl (by omega) (by omega) hL hlv (own_cut14 n22)) rfl 1 rfl (by decide) (by decide) (by decide) (by decide) ?_
  rintro _ ⟨b2, lim, rfl⟩
  refine go_astore_12 e0_532 rfl rfl ?_
  refine go_iload e0_534 rfl ?_
  refine go_ifeqY e0_536 (tg := 543) (by decide) (by decide) ?_
  refine go_iload e0_543 rfl ?_
  refine go_istore_13 e0_545 rfl ?_
  refine go_aload e0_547 rfl rfl ?_
  refine go_virtual_0 e0_549 (wd 52 rfl) (wd 53 rfl) (wd 55 rfl) (wd 54 rfl) (wd 56 rfl) (wd 3 rfl) hy_3 pd_25 rfl (c_unn hw (t := t) rfl) rfl rfl 0 rfl (by decide) (by decide) (by decide) (by decide) ?_
  rintro _ _ ⟨rfl, rfl⟩
  refine go_iload e0_552 rfl ?_
  refine go_icneN e0_554 (tg := 561) (by decide) rfl ?_
  refine go_iconst e0_557 (x := 1) rfl ?_
  refine go_goto e0_558 (tg := 562) (by decide) ?_
  refine go_zreturn e0_562 rfl (by decide) (by decide) (by decide) ?_
  exact rfl
set_option maxRecDepth 65536 in
set_option maxHeartbeats 4000000 in
theorem law_tn {l : Launch} {Z : State} {a0 : Array Value} {b : Nat} (hw : ∀ d ∈ tables_1, d.before a0 Z = true) {p : Program} {e : Env} {s : State} {m : MethodId} {args : Array Value} {below : List Frame} {meth : Method} {c : Code} (C : Cx p l e room_1 s m args below meth c Z a0 tables_1 b x code maxLocals ret (fun v _ => v = some (.int 1))) {i0 i1 i2 : Int32} {i3 : Int64} {L o t : Nat} (hL : L ≤ 8) (ho : o ≤ 15) (ht : t ≤ 8) {v14 : List Value} {lv : Int32} (hlv : accL 0 [lv] / 2 ^ 0 = 49 + L) (q14 : v14.length = 50) (n14 : Nx v14 o (66 :: 90 :: 104 :: lv :: 23 :: 114 :: 69 :: 56 :: 80 :: (-112) :: 0 :: 0 :: 0 :: 0 :: [])) : Go C 408 [.val (.int i0), .val (.int i1), .val (.int i2), .val (.long i3), .second, .val (.int 0), .val (.int (Int32.ofNat L)), .val (.int (Int32.ofNat o)), .val (.int (Int32.ofNat t)), .val (.ref 0), .val (.int 14), .unset, .unset, .unset] [] [ar .byte v14] 1 50 := by
  refine go_iload e0_408 rfl ?_
  refine go_iload e0_410 rfl ?_
  refine go_iadd e0_412 ?_
  refine go_istoreX_11 e0_413 rfl ?_
  intro ee hee
  obtain rfl : ee = Int32.ofNat (o + 14) := by rw [hee, Int32.ofNat_add]; rfl
  refine go_aload e0_415 rfl rfl ?_
  refine go_iload e0_417 rfl ?_
  refine go_lloadN e0_419 rfl ?_
  refine go_l2i e0_420 ?_
  refine go_i2b e0_421 ?_
  refine own_bput e0_422 q14 n14 (kk := 14) rfl (own_ti (by omega)) (by omega) ?_
  intro v15 q15 n15
  simp only [List.cons_append, List.nil_append] at n15
  refine go_aload e0_423 rfl rfl ?_
  refine go_iload e0_425 rfl ?_
  refine go_iconst e0_427 (x := 1) rfl ?_
  refine go_iadd e0_428 ?_
  refine go_lloadN e0_429 rfl ?_
  refine go_bipush e0_430 (x := 8) rfl ?_
  refine go_lushr e0_432 ?_
  refine go_l2i e0_433 ?_
  refine go_i2b e0_434 ?_
  refine own_bput e0_435 q15 n15 (kk := 15) rfl (own_oi (o := o + 14) (i := 1) rfl (by omega)) (by omega) ?_
  intro v16 q16 n16
  simp only [List.cons_append, List.nil_append] at n16
  refine go_aload e0_436 rfl rfl ?_
  refine go_iload e0_438 rfl ?_
  refine go_iconst e0_440 (x := 2) rfl ?_
  refine go_iadd e0_441 ?_
  refine go_lloadN e0_442 rfl ?_
  refine go_bipush e0_443 (x := 16) rfl ?_
  refine go_lushr e0_445 ?_
  refine go_l2i e0_446 ?_
  refine go_i2b e0_447 ?_
  refine own_bput e0_448 q16 n16 (kk := 16) rfl (own_oi (o := o + 14) (i := 2) rfl (by omega)) (by omega) ?_
  intro v17 q17 n17
  simp only [List.cons_append, List.nil_append] at n17
  refine go_aload e0_449 rfl rfl ?_
  refine go_iload e0_451 rfl ?_
  refine go_iconst e0_453 (x := 3) rfl ?_
  refine go_iadd e0_454 ?_
  refine go_lloadN e0_455 rfl ?_
  refine go_bipush e0_456 (x := 24) rfl ?_
  refine go_lushr e0_458 ?_
  refine go_l2i e0_459 ?_
  refine go_i2b e0_460 ?_
  refine own_bput e0_461 q17 n17 (kk := 17) rfl (own_oi (o := o + 14) (i := 3) rfl (by omega)) (by omega) ?_
  intro v18 q18 n18
  simp only [List.cons_append, List.nil_append] at n18
  refine go_aload e0_462 rfl rfl ?_
  refine go_iload e0_464 rfl ?_
  refine go_iconst e0_466 (x := 4) rfl ?_
  refine go_iadd e0_467 ?_
  refine go_lloadN e0_468 rfl ?_
  refine go_bipush e0_469 (x := 32) rfl ?_
  refine go_lushr e0_471 ?_
  refine go_l2i e0_472 ?_
  refine go_i2b e0_473 ?_
  refine own_bput e0_474 q18 n18 (kk := 18) rfl (own_oi (o := o + 14) (i := 4) rfl (by omega)) (by omega) ?_
  intro v19 q19 n19
  simp only [List.cons_append, List.nil_append] at n19
  refine go_aload e0_475 rfl rfl ?_
  refine go_iload e0_477 rfl ?_
  refine go_iconst e0_479 (x := 5) rfl ?_
  refine go_iadd e0_480 ?_
  refine go_lloadN e0_481 rfl ?_
  refine go_bipush e0_482 (x := 40) rfl ?_
  refine go_lushr e0_484 ?_
  refine go_l2i e0_485 ?_
  refine go_i2b e0_486 ?_
  refine own_bput e0_487 q19 n19 (kk := 19) rfl (own_oi (o := o + 14) (i := 5) rfl (by omega)) (by omega) ?_
  intro v20 q20 n20
  simp only [List.cons_append, List.nil_append] at n20
  refine go_aload e0_488 rfl rfl ?_
  refine go_iload e0_490 rfl ?_
  refine go_bipush e0_492 (x := 6) rfl ?_
  refine go_iadd e0_494 ?_
  refine go_lloadN e0_495 rfl ?_
  refine go_bipush e0_496 (x := 48) rfl ?_
  refine go_lushr e0_498 ?_
  refine go_l2i e0_499 ?_
  refine go_i2b e0_500 ?_
  refine own_bput e0_501 q20 n20 (kk := 20) rfl (own_oi (o := o + 14) (i := 6) rfl (by omega)) (by omega) ?_
  intro v21 q21 n21
  simp only [List.cons_append, List.nil_append] at n21
  refine go_aload e0_502 rfl rfl ?_
  refine go_iload e0_504 rfl ?_
  refine go_bipush e0_506 (x := 7) rfl ?_
  refine go_iadd e0_508 ?_
  refine go_lloadN e0_509 rfl ?_
  refine go_bipush e0_510 (x := 56) rfl ?_
  refine go_lushr e0_512 ?_
  refine go_l2i e0_513 ?_
  refine go_i2b e0_514 ?_
  refine own_bput e0_515 q21 n21 (kk := 21) rfl (own_oi (o := o + 14) (i := 7) rfl (by omega)) (by omega) ?_
  intro v22 q22 n22
  simp only [List.cons_append, List.nil_append] at n22
  exact law_un hw C hL ho ht hlv q22 n22
set_option maxRecDepth 65536 in
set_option maxHeartbeats 4000000 in
theorem law_mb {l : Launch} {Z : State} {a0 : Array Value} {b : Nat} (hw : ∀ d ∈ tables_1, d.before a0 Z = true) {p : Program} {e : Env} {s : State} {m : MethodId} {args : Array Value} {below : List Frame} {meth : Method} {c : Code} (C : Cx p l e room_1 s m args below meth c Z a0 tables_1 b x code maxLocals ret (fun v _ => v = some (.int 1))) {i0 i1 i2 : Int32} {i3 : Int64} {L o t : Nat} (hL : L ≤ 8) (ho : o ≤ 15) (ht : t ≤ 8) {v4 : List Value} {lv : Int32} (hlv : accL 0 [lv] / 2 ^ 0 = 49 + L) (q4 : v4.length = 50) (n4 : Nx v4 o (66 :: 90 :: 104 :: lv :: [])) : Go C 84 [.val (.int i0), .val (.int i1), .val (.int i2), .val (.long i3), .second, .val (.int 1), .val (.int (Int32.ofNat L)), .val (.int (Int32.ofNat o)), .val (.int (Int32.ofNat t)), .val (.ref 0), .unset, .unset, .unset, .unset] [] [ar .byte v4] 1 50 := by
  refine go_aload e0_84 rfl rfl ?_
  refine go_iload e0_86 rfl ?_
  refine go_iconst e0_88 (x := 4) rfl ?_
  refine go_iadd e0_89 ?_
  refine go_bipush e0_90 (x := 49) rfl ?_
  refine own_bput e0_92 q4 n4 (kk := 4) rfl (own_oi (i := 4) rfl (by omega)) (by omega) ?_
  intro v5 q5 n5
  simp only [List.cons_append, List.nil_append] at n5
  refine go_aload e0_93 rfl rfl ?_
  refine go_iload e0_95 rfl ?_
  refine go_iconst e0_97 (x := 5) rfl ?_
  refine go_iadd e0_98 ?_
  refine go_bipush e0_99 (x := 65) rfl ?_
  refine own_bput e0_101 q5 n5 (kk := 5) rfl (own_oi (i := 5) rfl (by omega)) (by omega) ?_
  intro v6 q6 n6
  simp only [List.cons_append, List.nil_append] at n6
  refine go_aload e0_102 rfl rfl ?_
  refine go_iload e0_104 rfl ?_
  refine go_bipush e0_106 (x := 6) rfl ?_
  refine go_iadd e0_108 ?_
  refine go_bipush e0_109 (x := 89) rfl ?_
  refine own_bput e0_111 q6 n6 (kk := 6) rfl (own_oi (i := 6) rfl (by omega)) (by omega) ?_
  intro v7 q7 n7
  simp only [List.cons_append, List.nil_append] at n7
  refine go_aload e0_112 rfl rfl ?_
  refine go_iload e0_114 rfl ?_
  refine go_bipush e0_116 (x := 7) rfl ?_
  refine go_iadd e0_118 ?_
  refine go_bipush e0_119 (x := 38) rfl ?_
  refine own_bput e0_121 q7 n7 (kk := 7) rfl (own_oi (i := 7) rfl (by omega)) (by omega) ?_
  intro v8 q8 n8
  simp only [List.cons_append, List.nil_append] at n8
  refine go_aload e0_122 rfl rfl ?_
  refine go_iload e0_124 rfl ?_
  refine go_bipush e0_126 (x := 8) rfl ?_
  refine go_iadd e0_128 ?_
  refine go_bipush e0_129 (x := 83) rfl ?_
  refine own_bput e0_131 q8 n8 (kk := 8) rfl (own_oi (i := 8) rfl (by omega)) (by omega) ?_
  intro v9 q9 n9
  simp only [List.cons_append, List.nil_append] at n9
  refine go_aload e0_132 rfl rfl ?_
  refine go_iload e0_134 rfl ?_
  refine go_bipush e0_136 (x := 9) rfl ?_
  refine go_iadd e0_138 ?_
  refine go_bipush e0_139 (x := 89) rfl ?_
  refine own_bput e0_141 q9 n9 (kk := 9) rfl (own_oi (i := 9) rfl (by omega)) (by omega) ?_
  intro v10 q10 n10
  simp only [List.cons_append, List.nil_append] at n10
  refine go_aload e0_142 rfl rfl ?_
  refine go_iload e0_144 rfl ?_
  refine go_bipush e0_146 (x := 10) rfl ?_
  refine go_iadd e0_148 ?_
  refine go_iloadN e0_149 rfl ?_
  refine go_bipush e0_150 (x := 24) rfl ?_
  refine go_iushr e0_152 ?_
  refine go_i2b e0_153 ?_
  refine own_bput e0_154 q10 n10 (kk := 10) rfl (own_oi (i := 10) rfl (by omega)) (by omega) ?_
  intro v11 q11 n11
  simp only [List.cons_append, List.nil_append] at n11
  refine go_aload e0_155 rfl rfl ?_
  refine go_iload e0_157 rfl ?_
  refine go_bipush e0_159 (x := 11) rfl ?_
  refine go_iadd e0_161 ?_
  refine go_iloadN e0_162 rfl ?_
  refine go_bipush e0_163 (x := 16) rfl ?_
  refine go_iushr e0_165 ?_
  refine go_i2b e0_166 ?_
  refine own_bput e0_167 q11 n11 (kk := 11) rfl (own_oi (i := 11) rfl (by omega)) (by omega) ?_
  intro v12 q12 n12
  simp only [List.cons_append, List.nil_append] at n12
  refine go_aload e0_168 rfl rfl ?_
  refine go_iload e0_170 rfl ?_
  refine go_bipush e0_172 (x := 12) rfl ?_
  refine go_iadd e0_174 ?_
  refine go_iloadN e0_175 rfl ?_
  refine go_bipush e0_176 (x := 8) rfl ?_
  refine go_iushr e0_178 ?_
  refine go_i2b e0_179 ?_
  refine own_bput e0_180 q12 n12 (kk := 12) rfl (own_oi (i := 12) rfl (by omega)) (by omega) ?_
  intro v13 q13 n13
  simp only [List.cons_append, List.nil_append] at n13
  refine go_aload e0_181 rfl rfl ?_
  refine go_iload e0_183 rfl ?_
  refine go_bipush e0_185 (x := 13) rfl ?_
  refine go_iadd e0_187 ?_
  refine go_iloadN e0_188 rfl ?_
  refine go_i2b e0_189 ?_
  refine own_bput e0_190 q13 n13 (kk := 13) rfl (own_oi (i := 13) rfl (by omega)) (by omega) ?_
  intro v14 q14 n14
  simp only [List.cons_append, List.nil_append] at n14
  refine go_aload e0_191 rfl rfl ?_
  refine go_iload e0_193 rfl ?_
  refine go_bipush e0_195 (x := 14) rfl ?_
  refine go_iadd e0_197 ?_
  refine go_iconst e0_198 (x := 0) rfl ?_
  refine own_bput e0_199 q14 n14 (kk := 14) rfl (own_oi (i := 14) rfl (by omega)) (by omega) ?_
  intro v15 q15 n15
  simp only [List.cons_append, List.nil_append] at n15
  refine go_aload e0_200 rfl rfl ?_
  refine go_iload e0_202 rfl ?_
  refine go_bipush e0_204 (x := 15) rfl ?_
  refine go_iadd e0_206 ?_
  refine go_iconst e0_207 (x := 0) rfl ?_
  refine own_bput e0_208 q15 n15 (kk := 15) rfl (own_oi (i := 15) rfl (by omega)) (by omega) ?_
  intro v16 q16 n16
  simp only [List.cons_append, List.nil_append] at n16
  refine go_aload e0_209 rfl rfl ?_
  refine go_iload e0_211 rfl ?_
  refine go_bipush e0_213 (x := 16) rfl ?_
  refine go_iadd e0_215 ?_
  refine go_iconst e0_216 (x := 0) rfl ?_
  refine own_bput e0_217 q16 n16 (kk := 16) rfl (own_oi (i := 16) rfl (by omega)) (by omega) ?_
  intro v17 q17 n17
  simp only [List.cons_append, List.nil_append] at n17
  refine go_aload e0_218 rfl rfl ?_
  refine go_iload e0_220 rfl ?_
  refine go_bipush e0_222 (x := 17) rfl ?_
  refine go_iadd e0_224 ?_
  refine go_bipush e0_225 (x := 64) rfl ?_
  refine own_bput e0_227 q17 n17 (kk := 17) rfl (own_oi (i := 17) rfl (by omega)) (by omega) ?_
  intro v18 q18 n18
  simp only [List.cons_append, List.nil_append] at n18
  refine go_aload e0_228 rfl rfl ?_
  refine go_iload e0_230 rfl ?_
  refine go_bipush e0_232 (x := 18) rfl ?_
  refine go_iadd e0_234 ?_
  refine go_iconst e0_235 (x := 0) rfl ?_
  refine own_bput e0_236 q18 n18 (kk := 18) rfl (own_oi (i := 18) rfl (by omega)) (by omega) ?_
  intro v19 q19 n19
  simp only [List.cons_append, List.nil_append] at n19
  refine go_aload e0_237 rfl rfl ?_
  refine go_iload e0_239 rfl ?_
  refine go_bipush e0_241 (x := 19) rfl ?_
  refine go_iadd e0_243 ?_
  refine go_bipush e0_244 (x := 64) rfl ?_
  refine own_bput e0_246 q19 n19 (kk := 19) rfl (own_oi (i := 19) rfl (by omega)) (by omega) ?_
  intro v20 q20 n20
  simp only [List.cons_append, List.nil_append] at n20
  refine go_aload e0_247 rfl rfl ?_
  refine go_iload e0_249 rfl ?_
  refine go_bipush e0_251 (x := 20) rfl ?_
  refine go_iadd e0_253 ?_
  refine go_iconst e0_254 (x := 0) rfl ?_
  refine own_bput e0_255 q20 n20 (kk := 20) rfl (own_oi (i := 20) rfl (by omega)) (by omega) ?_
  intro v21 q21 n21
  simp only [List.cons_append, List.nil_append] at n21
  refine go_aload e0_256 rfl rfl ?_
  refine go_iload e0_258 rfl ?_
  refine go_bipush e0_260 (x := 21) rfl ?_
  refine go_iadd e0_262 ?_
  refine go_bipush e0_263 (x := 32) rfl ?_
  refine own_bput e0_265 q21 n21 (kk := 21) rfl (own_oi (i := 21) rfl (by omega)) (by omega) ?_
  intro v22 q22 n22
  simp only [List.cons_append, List.nil_append] at n22
  refine go_aload e0_266 rfl rfl ?_
  refine go_iload e0_268 rfl ?_
  refine go_bipush e0_270 (x := 22) rfl ?_
  refine go_iadd e0_272 ?_
  refine go_iconst e0_273 (x := 0) rfl ?_
  refine own_bput e0_274 q22 n22 (kk := 22) rfl (own_oi (i := 22) rfl (by omega)) (by omega) ?_
  intro v23 q23 n23
  simp only [List.cons_append, List.nil_append] at n23
  refine go_aload e0_275 rfl rfl ?_
  refine go_iload e0_277 rfl ?_
  refine go_bipush e0_279 (x := 23) rfl ?_
  refine go_iadd e0_281 ?_
  refine go_bipush e0_282 (x := 33) rfl ?_
  refine own_bput e0_284 q23 n23 (kk := 23) rfl (own_oi (i := 23) rfl (by omega)) (by omega) ?_
  intro v24 q24 n24
  simp only [List.cons_append, List.nil_append] at n24
  refine go_aload e0_285 rfl rfl ?_
  refine go_iload e0_287 rfl ?_
  refine go_bipush e0_289 (x := 24) rfl ?_
  refine go_iadd e0_291 ?_
  refine go_iconst e0_292 (x := 1) rfl ?_
  refine own_bput e0_293 q24 n24 (kk := 24) rfl (own_oi (i := 24) rfl (by omega)) (by omega) ?_
  intro v25 q25 n25
  simp only [List.cons_append, List.nil_append] at n25
  refine go_aload e0_294 rfl rfl ?_
  refine go_iload e0_296 rfl ?_
  refine go_bipush e0_298 (x := 25) rfl ?_
  refine go_iadd e0_300 ?_
  refine go_iconst e0_301 (x := 2) rfl ?_
  refine own_bput e0_302 q25 n25 (kk := 25) rfl (own_oi (i := 25) rfl (by omega)) (by omega) ?_
  intro v26 q26 n26
  simp only [List.cons_append, List.nil_append] at n26
  refine go_bipush e0_303 (x := 26) rfl ?_
  refine go_istore_10 e0_305 rfl ?_
  refine go_goto e0_307 (tg := 408) (by decide) ?_
  exact law_tb hw C hL ho ht hlv q26 n26
set_option maxRecDepth 65536 in
set_option maxHeartbeats 4000000 in
theorem law_mn {l : Launch} {Z : State} {a0 : Array Value} {b : Nat} (hw : ∀ d ∈ tables_1, d.before a0 Z = true) {p : Program} {e : Env} {s : State} {m : MethodId} {args : Array Value} {below : List Frame} {meth : Method} {c : Code} (C : Cx p l e room_1 s m args below meth c Z a0 tables_1 b x code maxLocals ret (fun v _ => v = some (.int 1))) {i0 i1 i2 : Int32} {i3 : Int64} {L o t : Nat} (hL : L ≤ 8) (ho : o ≤ 15) (ht : t ≤ 8) {v4 : List Value} {lv : Int32} (hlv : accL 0 [lv] / 2 ^ 0 = 49 + L) (q4 : v4.length = 50) (n4 : Nx v4 o (66 :: 90 :: 104 :: lv :: [])) : Go C 310 [.val (.int i0), .val (.int i1), .val (.int i2), .val (.long i3), .second, .val (.int 0), .val (.int (Int32.ofNat L)), .val (.int (Int32.ofNat o)), .val (.int (Int32.ofNat t)), .val (.ref 0), .unset, .unset, .unset, .unset] [] [ar .byte v4] 1 50 := by
  refine go_aload e0_310 rfl rfl ?_
  refine go_iload e0_312 rfl ?_
  refine go_iconst e0_314 (x := 4) rfl ?_
  refine go_iadd e0_315 ?_
  refine go_bipush e0_316 (x := 23) rfl ?_
  refine own_bput e0_318 q4 n4 (kk := 4) rfl (own_oi (i := 4) rfl (by omega)) (by omega) ?_
  intro v5 q5 n5
  simp only [List.cons_append, List.nil_append] at n5
  refine go_aload e0_319 rfl rfl ?_
  refine go_iload e0_321 rfl ?_
  refine go_iconst e0_323 (x := 5) rfl ?_
  refine go_iadd e0_324 ?_
  refine go_bipush e0_325 (x := 114) rfl ?_
  refine own_bput e0_327 q5 n5 (kk := 5) rfl (own_oi (i := 5) rfl (by omega)) (by omega) ?_
  intro v6 q6 n6
  simp only [List.cons_append, List.nil_append] at n6
  refine go_aload e0_328 rfl rfl ?_
  refine go_iload e0_330 rfl ?_
  refine go_bipush e0_332 (x := 6) rfl ?_
  refine go_iadd e0_334 ?_
  refine go_bipush e0_335 (x := 69) rfl ?_
  refine own_bput e0_337 q6 n6 (kk := 6) rfl (own_oi (i := 6) rfl (by omega)) (by omega) ?_
  intro v7 q7 n7
  simp only [List.cons_append, List.nil_append] at n7
  refine go_aload e0_338 rfl rfl ?_
  refine go_iload e0_340 rfl ?_
  refine go_bipush e0_342 (x := 7) rfl ?_
  refine go_iadd e0_344 ?_
  refine go_bipush e0_345 (x := 56) rfl ?_
  refine own_bput e0_347 q7 n7 (kk := 7) rfl (own_oi (i := 7) rfl (by omega)) (by omega) ?_
  intro v8 q8 n8
  simp only [List.cons_append, List.nil_append] at n8
  refine go_aload e0_348 rfl rfl ?_
  refine go_iload e0_350 rfl ?_
  refine go_bipush e0_352 (x := 8) rfl ?_
  refine go_iadd e0_354 ?_
  refine go_bipush e0_355 (x := 80) rfl ?_
  refine own_bput e0_357 q8 n8 (kk := 8) rfl (own_oi (i := 8) rfl (by omega)) (by omega) ?_
  intro v9 q9 n9
  simp only [List.cons_append, List.nil_append] at n9
  refine go_aload e0_358 rfl rfl ?_
  refine go_iload e0_360 rfl ?_
  refine go_bipush e0_362 (x := 9) rfl ?_
  refine go_iadd e0_364 ?_
  refine go_bipush e0_365 (x := (-112)) rfl ?_
  refine own_bput e0_367 q9 n9 (kk := 9) rfl (own_oi (i := 9) rfl (by omega)) (by omega) ?_
  intro v10 q10 n10
  simp only [List.cons_append, List.nil_append] at n10
  refine go_aload e0_368 rfl rfl ?_
  refine go_iload e0_370 rfl ?_
  refine go_bipush e0_372 (x := 10) rfl ?_
  refine go_iadd e0_374 ?_
  refine go_iconst e0_375 (x := 0) rfl ?_
  refine own_bput e0_376 q10 n10 (kk := 10) rfl (own_oi (i := 10) rfl (by omega)) (by omega) ?_
  intro v11 q11 n11
  simp only [List.cons_append, List.nil_append] at n11
  refine go_aload e0_377 rfl rfl ?_
  refine go_iload e0_379 rfl ?_
  refine go_bipush e0_381 (x := 11) rfl ?_
  refine go_iadd e0_383 ?_
  refine go_iconst e0_384 (x := 0) rfl ?_
  refine own_bput e0_385 q11 n11 (kk := 11) rfl (own_oi (i := 11) rfl (by omega)) (by omega) ?_
  intro v12 q12 n12
  simp only [List.cons_append, List.nil_append] at n12
  refine go_aload e0_386 rfl rfl ?_
  refine go_iload e0_388 rfl ?_
  refine go_bipush e0_390 (x := 12) rfl ?_
  refine go_iadd e0_392 ?_
  refine go_iconst e0_393 (x := 0) rfl ?_
  refine own_bput e0_394 q12 n12 (kk := 12) rfl (own_oi (i := 12) rfl (by omega)) (by omega) ?_
  intro v13 q13 n13
  simp only [List.cons_append, List.nil_append] at n13
  refine go_aload e0_395 rfl rfl ?_
  refine go_iload e0_397 rfl ?_
  refine go_bipush e0_399 (x := 13) rfl ?_
  refine go_iadd e0_401 ?_
  refine go_iconst e0_402 (x := 0) rfl ?_
  refine own_bput e0_403 q13 n13 (kk := 13) rfl (own_oi (i := 13) rfl (by omega)) (by omega) ?_
  intro v14 q14 n14
  simp only [List.cons_append, List.nil_append] at n14
  refine go_bipush e0_404 (x := 14) rfl ?_
  refine go_istore_10 e0_406 rfl ?_
  exact law_tn hw C hL ho ht hlv q14 n14
set_option maxRecDepth 65536 in
set_option maxHeartbeats 4000000 in
theorem law_met {l : Launch} {Z : State} {a0 : Array Value} {b : Nat} (hw : ∀ d ∈ tables_1, d.before a0 Z = true) (i0 i1 i2 : Int32) (i3 : Int64) :
    Met l Z a0 b x code maxLocals ret room_1 [.int i0, .int i1, .int i2, .long i3] [] (fun v _ => v = some (.int 1)) := by
  refine Met.of_go hw (plainFor_of_name pn_35) (L0 := [.val (.int i0), .val (.int i1), .val (.int i2), .val (.long i3), .second, .unset, .unset, .unset, .unset, .unset, .unset, .unset, .unset, .unset]) rfl ?_
  intro p e s m args below meth c C
  refine go_iloadN e0_0 rfl ?_
  refine go_iconst e0_1 (x := 1) rfl ?_
  refine go_iand e0_2 ?_
  refine go_ifeq e0_3 (tg := 10) (by decide) ?_ ?_
  · intro c3
    refine go_iconst e0_10 (x := 0) rfl ?_
    refine go_istore_5 e0_11 rfl ?_
    refine go_iloadN e0_13 rfl ?_
    refine go_iconst e0_14 (x := 1) rfl ?_
    refine go_iushr e0_15 ?_
    refine go_bipush e0_16 (x := 9) rfl ?_
    refine go_irem e0_18 (by decide) ?_
    refine go_istoreX_6 e0_19 rfl ?_
    intro lv hlv
    obtain ⟨L, hL1, hL⟩ := own_rem9 i0 1 1 (by decide) (by decide)
    rw [hL1] at hlv
    subst hlv
    refine go_iloadN e0_21 rfl ?_
    refine go_bipush e0_22 (x := 15) rfl ?_
    refine go_iand e0_24 ?_
    refine go_istoreX_7 e0_25 rfl ?_
    intro oo hoo
    obtain ⟨o, ho1, ho⟩ := own_o15 i1
    rw [ho1] at hoo
    subst hoo
    refine go_iloadN e0_27 rfl ?_
    refine go_iconst e0_28 (x := 4) rfl ?_
    refine go_iushr e0_29 ?_
    refine go_bipush e0_30 (x := 9) rfl ?_
    refine go_irem e0_32 (by decide) ?_
    refine go_istoreX_8 e0_33 rfl ?_
    intro tt htt
    obtain ⟨t, ht1, ht⟩ := own_rem9 i1 4 4 (by decide) (by decide)
    rw [ht1] at htt
    subst htt
    refine go_bipush e0_35 (x := 50) rfl ?_
    obtain ⟨v0, hv0⟩ : ∃ zs, List.replicate 50 (Value.int 0) = zs := ⟨_, rfl⟩
    have q0 : v0.length = 50 := by rw [← hv0, List.length_replicate]
    have n0 : Nx v0 o [] := trivial
    refine go_newarray e0_37 (wd 0 rfl) (k := 50) rfl (vs := v0) hv0 (cap := 50) (by decide) (by decide) (by decide) (by decide) ?_
    simp only [List.replicate_succ, List.replicate_zero, List.set_cons_zero, List.set_cons_succ, List.length_nil, List.length_cons, Nat.zero_add, Nat.reduceAdd, List.nil_append, List.cons_append]
    refine go_astore_9 e0_39 rfl rfl ?_
    refine go_aload e0_41 rfl rfl ?_
    refine go_iload e0_43 rfl ?_
    refine go_bipush e0_45 (x := 66) rfl ?_
    refine own_bput e0_47 q0 n0 (kk := 0) rfl (own_ti (by omega)) (by omega) ?_
    intro v1 q1 n1
    simp only [List.cons_append, List.nil_append] at n1
    refine go_aload e0_48 rfl rfl ?_
    refine go_iload e0_50 rfl ?_
    refine go_iconst e0_52 (x := 1) rfl ?_
    refine go_iadd e0_53 ?_
    refine go_bipush e0_54 (x := 90) rfl ?_
    refine own_bput e0_56 q1 n1 (kk := 1) rfl (own_oi (i := 1) rfl (by omega)) (by omega) ?_
    intro v2 q2 n2
    simp only [List.cons_append, List.nil_append] at n2
    refine go_aload e0_57 rfl rfl ?_
    refine go_iload e0_59 rfl ?_
    refine go_iconst e0_61 (x := 2) rfl ?_
    refine go_iadd e0_62 ?_
    refine go_bipush e0_63 (x := 104) rfl ?_
    refine own_bput e0_65 q2 n2 (kk := 2) rfl (own_oi (i := 2) rfl (by omega)) (by omega) ?_
    intro v3 q3 n3
    simp only [List.cons_append, List.nil_append] at n3
    refine go_aload e0_66 rfl rfl ?_
    refine go_iload e0_68 rfl ?_
    refine go_iconst e0_70 (x := 3) rfl ?_
    refine go_iadd e0_71 ?_
    refine go_bipush e0_72 (x := 49) rfl ?_
    refine go_iload e0_74 rfl ?_
    refine go_iadd e0_76 ?_
    refine go_i2b e0_77 ?_
    refine own_bput e0_78 q3 n3 (kk := 3) rfl (own_oi (i := 3) rfl (by omega)) (by omega) ?_
    intro v4 q4 n4
    simp only [List.cons_append, List.nil_append] at n4
    refine go_iload e0_79 rfl ?_
    refine go_ifeqY e0_81 (tg := 310) (by decide) (by decide) ?_
    exact law_mn hw C hL ho ht (own_lvb hL) q4 n4
  · intro c3
    refine go_iconst e0_6 (x := 1) rfl ?_
    refine go_goto e0_7 (tg := 11) (by decide) ?_
    refine go_istore_5 e0_11 rfl ?_
    refine go_iloadN e0_13 rfl ?_
    refine go_iconst e0_14 (x := 1) rfl ?_
    refine go_iushr e0_15 ?_
    refine go_bipush e0_16 (x := 9) rfl ?_
    refine go_irem e0_18 (by decide) ?_
    refine go_istoreX_6 e0_19 rfl ?_
    intro lv hlv
    obtain ⟨L, hL1, hL⟩ := own_rem9 i0 1 1 (by decide) (by decide)
    rw [hL1] at hlv
    subst hlv
    refine go_iloadN e0_21 rfl ?_
    refine go_bipush e0_22 (x := 15) rfl ?_
    refine go_iand e0_24 ?_
    refine go_istoreX_7 e0_25 rfl ?_
    intro oo hoo
    obtain ⟨o, ho1, ho⟩ := own_o15 i1
    rw [ho1] at hoo
    subst hoo
    refine go_iloadN e0_27 rfl ?_
    refine go_iconst e0_28 (x := 4) rfl ?_
    refine go_iushr e0_29 ?_
    refine go_bipush e0_30 (x := 9) rfl ?_
    refine go_irem e0_32 (by decide) ?_
    refine go_istoreX_8 e0_33 rfl ?_
    intro tt htt
    obtain ⟨t, ht1, ht⟩ := own_rem9 i1 4 4 (by decide) (by decide)
    rw [ht1] at htt
    subst htt
    refine go_bipush e0_35 (x := 50) rfl ?_
    obtain ⟨v0, hv0⟩ : ∃ zs, List.replicate 50 (Value.int 0) = zs := ⟨_, rfl⟩
    have q0 : v0.length = 50 := by rw [← hv0, List.length_replicate]
    have n0 : Nx v0 o [] := trivial
    refine go_newarray e0_37 (wd 0 rfl) (k := 50) rfl (vs := v0) hv0 (cap := 50) (by decide) (by decide) (by decide) (by decide) ?_
    simp only [List.replicate_succ, List.replicate_zero, List.set_cons_zero, List.set_cons_succ, List.length_nil, List.length_cons, Nat.zero_add, Nat.reduceAdd, List.nil_append, List.cons_append]
    refine go_astore_9 e0_39 rfl rfl ?_
    refine go_aload e0_41 rfl rfl ?_
    refine go_iload e0_43 rfl ?_
    refine go_bipush e0_45 (x := 66) rfl ?_
    refine own_bput e0_47 q0 n0 (kk := 0) rfl (own_ti (by omega)) (by omega) ?_
    intro v1 q1 n1
    simp only [List.cons_append, List.nil_append] at n1
    refine go_aload e0_48 rfl rfl ?_
    refine go_iload e0_50 rfl ?_
    refine go_iconst e0_52 (x := 1) rfl ?_
    refine go_iadd e0_53 ?_
    refine go_bipush e0_54 (x := 90) rfl ?_
    refine own_bput e0_56 q1 n1 (kk := 1) rfl (own_oi (i := 1) rfl (by omega)) (by omega) ?_
    intro v2 q2 n2
    simp only [List.cons_append, List.nil_append] at n2
    refine go_aload e0_57 rfl rfl ?_
    refine go_iload e0_59 rfl ?_
    refine go_iconst e0_61 (x := 2) rfl ?_
    refine go_iadd e0_62 ?_
    refine go_bipush e0_63 (x := 104) rfl ?_
    refine own_bput e0_65 q2 n2 (kk := 2) rfl (own_oi (i := 2) rfl (by omega)) (by omega) ?_
    intro v3 q3 n3
    simp only [List.cons_append, List.nil_append] at n3
    refine go_aload e0_66 rfl rfl ?_
    refine go_iload e0_68 rfl ?_
    refine go_iconst e0_70 (x := 3) rfl ?_
    refine go_iadd e0_71 ?_
    refine go_bipush e0_72 (x := 49) rfl ?_
    refine go_iload e0_74 rfl ?_
    refine go_iadd e0_76 ?_
    refine go_i2b e0_77 ?_
    refine own_bput e0_78 q3 n3 (kk := 3) rfl (own_oi (i := 3) rfl (by omega)) (by omega) ?_
    intro v4 q4 n4
    simp only [List.cons_append, List.nil_append] at n4
    refine go_iload e0_79 rfl ?_
    refine go_ifeqN e0_81 (tg := 310) (by decide) (by decide) ?_
    exact law_mb hw C hL ho ht (own_lvb hL) q4 n4
set_option maxRecDepth 65536 in
set_option maxHeartbeats 40000000 in
theorem comes_1 {Post : Tables → Env → Array Value → State → Outcome → State → Prop} (hpost : ∀ tb e args s v u, (limb_1_1.after args s (.returned v) u = true ∧ limb_1_2.after args s (.returned v) u = true ∧ True) → FrameEnd s (.returned v) u (Jvm.fieldLocs frame_1_writes args s ++ Jvm.arrayLocs frame_1_arrays args s ++ Jvm.staticLocs frame_1_statics s) 64 136832 → Post tb e args s (.returned v) u) :
    ArmFor flags0 classFile x code maxLocals ret World_1 tables_1 room_1 Calls_1 rest_1 Pre_1 Post := by
  intro l hfl _ _ p e ha hc hk s m args below hf hA hF happ hP
  obtain ⟨hcalls, hrest, hpre⟩ := hP
  obtain ⟨-, -, -, hnamed, -, -, -, hat⟩ := (Spec.applies_iff hf).mp happ
  obtain ⟨hg, hn⟩ := and_e (Cond.before_iff.mp (show (Jvm.Cond.and given_1 narrow_1).before args s = true from hpre))
  obtain ⟨h1, h2⟩ := and_e hg
  obtain ⟨w0, w1, w2, w3, rfl⟩ : ∃ w0 w1 w2 w3 : Value, args = #[w0, w1, w2, w3] := by
    have hs : args.size = 4 := by simpa [Cond.value, given_1] using h1
    obtain ⟨L⟩ := args
    match L, hs with
    | [w0, w1, w2, w3], _ => exact ⟨w0, w1, w2, w3, rfl⟩
  have hw := fun d (hd : d ∈ tables_1) => atoms_spec (ws := Jvm.Cond.code x code maxLocals ret :: tables_1) hat d (List.mem_cons_of_mem _ hd)
  obtain ⟨a0, b0⟩ := and_e h2
  obtain ⟨i0, e0⟩ := is_v a0
  obtain rfl : w0 = (.int i0) := Option.some.inj e0
  obtain ⟨a1, b1⟩ := and_e b0
  obtain ⟨i1, e1⟩ := is_v a1
  obtain rfl : w1 = (.int i1) := Option.some.inj e1
  obtain ⟨a2, b2⟩ := and_e b1
  obtain ⟨i2, e2⟩ := is_v a2
  obtain rfl : w2 = (.int i2) := Option.some.inj e2
  obtain ⟨i3, e3⟩ := isL_v b2
  obtain rfl : w3 = (.long i3) := Option.some.inj e3
  obtain ⟨n, o, h1, h2, h3, _, L, rfl, ⟨N, v', H', rfl, -, rfl⟩, hq⟩ := law_met (l := l) (Z := s) (b := s.heap.size) hw i0 i1 i2 i3 s.heap (Rel.nil s.heap) tables_1 p e ha hc hk s m _ below hf ((Spec.applies_iff_loose hf).mp happ).1 ⟨rfl, State.Warmed39.refl s, rfl⟩ trivial
  refine ⟨n, _, h1, h2, h3, hpost _ _ _ _ _ _ ⟨Cond.after_iff.mpr rfl, Cond.after_iff.mpr (eq_i res_at (Term.int_eval (1)) rfl), trivial⟩ ⟨hq.1, hq.2.1, (hq.2.2.sift fun y hy => Or.inr (N y hy)).mono (by decide) (by decide)⟩⟩
theorem main_1_1 : Claimed_1_1 := comes_1 fun _ _ _ _ _ _ h hF => ⟨h.1, hF⟩
theorem main_1_2 : Claimed_1_2 := comes_1 fun _ _ _ _ _ _ h hF => ⟨h.2.1, hF⟩
end Jvm.Pilot.@@N@@
namespace Jvm.Pilot.@@N@@
open Jvm Jvm.ClassFile Sem Op Lib Jvm.Free Jvm.Stand Jvm.Pilot.@@N@@.Jvm.D
/-! MADE BY PROGRAM (witnessworld.py) out of the Statement's table words and the real class files: 17 classes; the members and pool entries that the words name. The judged class is class 1, her method 1. -/
namespace start1
open Jvm.ClassFile
def u (s : String) : CpInfo := .utf8 (stringToUtf16 s)
/-- a pool by its gaps: so many unusable entries, then the entry; so many at the end -/
def gap : Nat → List CpInfo → List CpInfo
  | 0, r => r
  | n + 1, r => .unusable :: gap n r
def poolList (es : List (Nat × CpInfo)) (last : Nat) : List CpInfo := es.foldr (fun e r => gap e.1 (e.2 :: r)) (gap last [])
def pool (es : List (Nat × CpInfo)) (last : Nat) : Array CpInfo := ⟨poolList es last⟩
def fileOf (pool : Array CpInfo) (this : Nat) (attrs : Array Attribute := #[]) (ms : Array MethodInfo := #[]) (fl : Nat := 33) (sup : Nat := 0) (ifs : Array Nat := #[]) (fds : Array FieldInfo := #[]) : ClassFile where
  minorVersion := 0
  majorVersion := 65
  constantPool := pool
  accessFlags := fl
  thisClass := this
  superClass := sup
  interfaces := ifs
  fields := fds
  methods := ms
  attributes := attrs
def plain (name : String) (sup : Option ClassId) : Class where
  name := name
  kind := .ordinary
  loader := none
  accessFlags := 33
  super := sup
  interfaces := #[]
  cf := none
  fields := #[]
  methods := #[]
  instanceTypes := #[]
  staticTypes := #[]
  resolved := #[]
  callSites := []
  init := .initialized
  statics := none
  mirror := none

def pool0 : Array CpInfo := pool [(5, u "<init>"), (0, u "()V"), (1, .class_ 10), (1, u "java/lang/Object"), (85, u "clone"), (0, u "()Ljava/lang/Object;")] 26

def k0c0 : Code := { maxStack := 0, maxLocals := 1, code := object_method_1_code, exceptionTable := #[], attributes := #[] }
def k0m0 : Method := { name := "<init>", desc := "()V", sig := { parameters := [], returnType := none }, accessFlags := 1, code := some k0c0 }
def k0m1 : Method := { name := "clone", desc := "()Ljava/lang/Object;", sig := { parameters := [], returnType := some (.object "java/lang/Object") }, accessFlags := 260, code := none }
/-- java/lang/Object -/
def k0 : Class := { plain "java/lang/Object" none with
  accessFlags := 33
  interfaces := #[]
  cf := some (fileOf pool0 8 #[] #[{ accessFlags := 1, nameIndex := 5, descriptorIndex := 6, attributes := #[] }, { accessFlags := 260, nameIndex := 96, descriptorIndex := 97, attributes := #[] }] 33 0 #[] #[])
  fields := #[]
  methods := #[k0m0, k0m1]
  instanceTypes := #[]
  staticTypes := #[]
  resolved := Array.replicate 124 none
  statics := none }

def pool1 : Array CpInfo := pool [(2, .class_ 4), (1, u "java/lang/Object"), (0, u "<init>"), (0, u "()V"), (0, .class_ 8), (0, u "com/example/deltaweave/deltaweave/format/Bzip2InputStream"), (0, .methodref 7 10), (0, .nameAndType 5 11), (0, u "([BII)V"), (0, .methodref 7 13), (0, .nameAndType 14 15), (0, u "unusedBytes"), (0, u "()I"), (0, .class_ 17), (0, u "com/example/deltaweave/deltaweave/format/Bzip2InputStreamUnusedBytesPinLaw"), (2, u "law"), (0, u "(IIIJ)Z")] 8

def k1m0 : Method := { name := "<init>", desc := "()V", sig := { parameters := [], returnType := none }, accessFlags := 1, code := none }
def k1c1 : Code := { maxStack := 6, maxLocals := 14, code := code, exceptionTable := #[], attributes := #[] }
def k1m1 : Method := { name := "law", desc := "(IIIJ)Z", sig := { parameters := [.int, .int, .int, .long], returnType := some .boolean }, accessFlags := 9, code := some k1c1 }
/-- com/example/deltaweave/deltaweave/format/Bzip2InputStreamUnusedBytesPinLaw -/
def k1 : Class := { plain "com/example/deltaweave/deltaweave/format/Bzip2InputStreamUnusedBytesPinLaw" (some 0) with
  accessFlags := 49
  interfaces := #[]
  cf := some (fileOf pool1 16 #[] #[{ accessFlags := 1, nameIndex := 5, descriptorIndex := 6, attributes := #[] }, { accessFlags := 9, nameIndex := 20, descriptorIndex := 21, attributes := #[] }] 49 2 #[] #[])
  fields := #[]
  methods := #[k1m0, k1m1]
  instanceTypes := #[]
  staticTypes := #[]
  resolved := Array.replicate 30 none
  statics := none }

def pool2 : Array CpInfo := pool [(1, .class_ 2), (0, u "java/lang/AutoCloseable"), (0, .class_ 4), (0, u "java/lang/Object")] 7

/-- java/lang/AutoCloseable -/
def k2 : Class := { plain "java/lang/AutoCloseable" (some 0) with
  accessFlags := 1537
  interfaces := #[]
  cf := some (fileOf pool2 1 #[] #[] 1537 3 #[] #[])
  fields := #[]
  methods := #[]
  instanceTypes := #[]
  staticTypes := #[]
  resolved := Array.replicate 12 none
  statics := none }

def pool3 : Array CpInfo := pool [(1, .class_ 2), (0, u "java/io/Closeable"), (0, .class_ 4), (0, u "java/lang/Object"), (0, .class_ 6), (0, u "java/lang/AutoCloseable")] 7

/-- java/io/Closeable -/
def k3 : Class := { plain "java/io/Closeable" (some 0) with
  accessFlags := 1537
  interfaces := #[2]
  cf := some (fileOf pool3 1 #[] #[] 1537 3 #[5] #[])
  fields := #[]
  methods := #[]
  instanceTypes := #[]
  staticTypes := #[]
  resolved := Array.replicate 14 none
  statics := none }

def pool4 : Array CpInfo := pool [(3, .methodref 4 5), (0, .class_ 6), (0, .nameAndType 7 8), (0, u "java/lang/Object"), (0, u "<init>"), (0, u "()V"), (0, .class_ 10), (0, u "java/io/InputStream$1"), (2, .class_ 15), (1, u "java/io/InputStream"), (116, .class_ 133), (0, u "java/io/Closeable"), (0, u "MAX_SKIP_BUFFER_SIZE"), (0, u "I"), (2, u "DEFAULT_BUFFER_SIZE"), (1, u "MAX_BUFFER_SIZE")] 54

def k4c0 : Code := { maxStack := 1, maxLocals := 1, code := jdk_2022_method_1_code, exceptionTable := #[], attributes := #[] }
def k4m0 : Method := { name := "<init>", desc := "()V", sig := { parameters := [], returnType := none }, accessFlags := 1, code := some k4c0 }
/-- java/io/InputStream -/
def k4 : Class := { plain "java/io/InputStream" (some 0) with
  accessFlags := 1057
  interfaces := #[3]
  cf := some (fileOf pool4 13 #[.nestMembers #[9]] #[{ accessFlags := 1, nameIndex := 7, descriptorIndex := 8, attributes := #[] }] 1057 4 #[132] #[{ accessFlags := 26, nameIndex := 134, descriptorIndex := 135, attributes := #[] }, { accessFlags := 26, nameIndex := 138, descriptorIndex := 135, attributes := #[] }, { accessFlags := 26, nameIndex := 140, descriptorIndex := 135, attributes := #[] }])
  fields := #[{ name := "MAX_SKIP_BUFFER_SIZE", type := .int, accessFlags := 26, slot := 0, constantValue := 0 }, { name := "DEFAULT_BUFFER_SIZE", type := .int, accessFlags := 26, slot := 1, constantValue := 0 }, { name := "MAX_BUFFER_SIZE", type := .int, accessFlags := 26, slot := 2, constantValue := 0 }]
  methods := #[k4m0]
  instanceTypes := #[]
  staticTypes := #[.int, .int, .int]
  resolved := Array.replicate 195 none
  statics := none }

def pool5 : Array CpInfo := pool [(1, .methodref 2 3), (0, .class_ 4), (0, .nameAndType 5 6), (0, u "java/io/InputStream"), (0, u "<init>"), (0, u "()V"), (0, .fieldref 8 9), (0, .class_ 10), (0, .nameAndType 11 12), (0, u "com/example/deltaweave/deltaweave/format/Bzip2InputStream"), (0, u "block"), (0, u "[I"), (0, .fieldref 8 14), (0, .nameAndType 15 16), (0, u "input"), (0, u "[B"), (0, .fieldref 8 18), (0, .nameAndType 19 20), (0, u "inputNext"), (0, u "I"), (0, .fieldref 8 22), (0, .nameAndType 23 20), (0, u "inputEnd"), (0, .methodref 8 25), (0, .nameAndType 26 27), (0, u "readBits"), (0, u "(I)I"), (11, .integer 100000), (0, .fieldref 8 41), (0, .nameAndType 42 20), (0, u "blockSizeLimit"), (0, .methodref 8 44), (0, .nameAndType 45 6), (0, u "nextBlock"), (9, u "(III)I"), (0, .fieldref 8 57), (0, .nameAndType 58 59), (0, u "ended"), (0, u "Z"), (3, .fieldref 8 64), (0, .nameAndType 65 20), (0, u "blockRead"), (0, .fieldref 8 67), (0, .nameAndType 68 20), (0, u "blockLength"), (0, .fieldref 8 70), (0, .nameAndType 71 20), (0, u "repeats"), (3, .fieldref 8 76), (0, .nameAndType 77 20), (0, u "bitCount"), (2, .fieldref 8 81), (0, .nameAndType 82 20), (0, u "position"), (0, .fieldref 8 84), (0, .nameAndType 85 20), (0, u "crc"), (0, .fieldref 8 87), (0, .nameAndType 88 20), (0, u "lastByte"), (0, .fieldref 8 90), (0, .nameAndType 91 20), (0, u "equalBytes"), (2, u "CRC_TABLE"), (0, .fieldref 8 96), (0, .nameAndType 97 20), (0, u "blockCrc"), (0, .fieldref 8 99), (0, .nameAndType 100 20), (0, u "blockNumber"), (1, .fieldref 8 103), (0, .nameAndType 104 20), (0, u "streamCrc"), (0, .long 25779555029136), (3, .long 54156738319193), (3, .methodref 8 114), (0, .nameAndType 115 6), (0, u "readBlock"), (3, .methodref 8 120), (0, .nameAndType 121 6), (0, u "linkBlock"), (0, .methodref 8 123), (0, .nameAndType 124 125), (0, u "readByteValues"), (0, u "()[I"), (3, .methodref 8 130), (0, .nameAndType 131 132), (0, u "readSelectors"), (0, u "(I)[B"), (0, .class_ 134), (0, u "com/example/deltaweave/deltaweave/format/Bzip2InputStream$HuffmanTable"), (0, .methodref 8 136), (0, .nameAndType 137 138), (0, u "readCodeLengths"), (0, u "(I)[I"), (0, .methodref 133 140), (0, .nameAndType 5 141), (0, u "(Lcom/example/deltaweave/deltaweave/format/Bzip2InputStream;[I)V"), (1, .methodref 133 144), (0, .nameAndType 145 146), (0, u "decode"), (0, u "()I"), (1, .methodref 8 149), (0, .nameAndType 150 55), (0, u "append"), (0, .methodref 152 153), (0, .class_ 154), (0, .nameAndType 155 156), (0, u "java/lang/System"), (0, u "arraycopy"), (0, u "(Ljava/lang/Object;ILjava/lang/Object;II)V"), (1, .integer 65536), (0, .methodref 160 161), (0, .class_ 162), (0, .nameAndType 163 164), (0, u "java/lang/Math"), (0, u "max"), (0, u "(II)I"), (0, .methodref 160 166), (0, .nameAndType 167 164), (0, u "min"), (0, .methodref 169 170), (0, .class_ 171), (0, .nameAndType 172 173), (0, u "java/util/Arrays"), (0, u "copyOf"), (0, u "([II)[I"), (0, .methodref 169 175), (0, .nameAndType 176 177), (0, u "fill"), (0, u "([IIII)V"), (0, .integer 32768), (4, .methodref 8 184), (0, .nameAndType 176 185), (0, u "(I)V"), (0, .methodref 8 187), (0, .nameAndType 188 185), (0, u "consume"), (0, .fieldref 8 190), (0, .nameAndType 191 192), (0, u "bitBuffer"), (0, u "J"), (9, u "BLOCK_MAGIC"), (1, u "END_MAGIC"), (0, u "BLOCK_SIZE_UNIT"), (0, u "MIN_GROUPS"), (1, u "MAX_GROUPS"), (1, u "GROUP_SIZE"), (1, u "MAX_CODE_LENGTH"), (1, u "RUNA"), (1, u "RUNB"), (1, u "RUN_BEFORE_COUNT"), (1, u "INITIAL_BLOCK_CAPACITY"), (0, u "([BII)V"), (5, u "unusedBytes")] 47

def k5c0 : Code := { maxStack := 3, maxLocals := 5, code := prog_14_method_1_code, exceptionTable := #[], attributes := #[] }
def k5m0 : Method := { name := "<init>", desc := "([BII)V", sig := { parameters := [(.array .byte), .int, .int], returnType := none }, accessFlags := 0, code := some k5c0 }
def k5c1 : Code := { maxStack := 3, maxLocals := 1, code := prog_14_method_4_code, exceptionTable := #[], attributes := #[] }
def k5m1 : Method := { name := "unusedBytes", desc := "()I", sig := { parameters := [], returnType := some .int }, accessFlags := 0, code := some k5c1 }
def k5c2 : Code := { maxStack := 5, maxLocals := 4, code := prog_14_method_7_code, exceptionTable := #[], attributes := #[] }
def k5m2 : Method := { name := "nextBlock", desc := "()V", sig := { parameters := [], returnType := none }, accessFlags := 2, code := some k5c2 }
def k5c3 : Code := { maxStack := 7, maxLocals := 17, code := prog_14_method_8_code, exceptionTable := #[], attributes := #[] }
def k5m3 : Method := { name := "readBlock", desc := "()V", sig := { parameters := [], returnType := none }, accessFlags := 2, code := some k5c3 }
def k5c4 : Code := { maxStack := 4, maxLocals := 6, code := prog_14_method_9_code, exceptionTable := #[], attributes := #[] }
def k5m4 : Method := { name := "append", desc := "(III)I", sig := { parameters := [.int, .int, .int], returnType := some .int }, accessFlags := 2, code := some k5c4 }
def k5c5 : Code := { maxStack := 4, maxLocals := 7, code := prog_14_method_10_code, exceptionTable := #[], attributes := #[] }
def k5m5 : Method := { name := "readByteValues", desc := "()[I", sig := { parameters := [], returnType := some (.array .int) }, accessFlags := 2, code := some k5c5 }
def k5c6 : Code := { maxStack := 5, maxLocals := 8, code := prog_14_method_11_code, exceptionTable := #[], attributes := #[] }
def k5m6 : Method := { name := "readSelectors", desc := "(I)[B", sig := { parameters := [.int], returnType := some (.array .byte) }, accessFlags := 2, code := some k5c6 }
def k5c7 : Code := { maxStack := 4, maxLocals := 5, code := prog_14_method_12_code, exceptionTable := #[], attributes := #[] }
def k5m7 : Method := { name := "readCodeLengths", desc := "(I)[I", sig := { parameters := [.int], returnType := some (.array .int) }, accessFlags := 2, code := some k5c7 }
def k5c8 : Code := { maxStack := 6, maxLocals := 5, code := prog_14_method_13_code, exceptionTable := #[], attributes := #[] }
def k5m8 : Method := { name := "linkBlock", desc := "()V", sig := { parameters := [], returnType := none }, accessFlags := 2, code := some k5c8 }
def k5c9 : Code := { maxStack := 6, maxLocals := 2, code := prog_14_method_14_code, exceptionTable := #[], attributes := #[] }
def k5m9 : Method := { name := "readBits", desc := "(I)I", sig := { parameters := [.int], returnType := some .int }, accessFlags := 2, code := some k5c9 }
def k5c10 : Code := { maxStack := 3, maxLocals := 2, code := prog_14_method_15_code, exceptionTable := #[], attributes := #[] }
def k5m10 : Method := { name := "consume", desc := "(I)V", sig := { parameters := [.int], returnType := none }, accessFlags := 2, code := some k5c10 }
def k5c11 : Code := { maxStack := 8, maxLocals := 2, code := prog_14_method_16_code, exceptionTable := #[], attributes := #[] }
def k5m11 : Method := { name := "fill", desc := "(I)V", sig := { parameters := [.int], returnType := none }, accessFlags := 2, code := some k5c11 }
/-- com/example/deltaweave/deltaweave/format/Bzip2InputStream -/
def k5 : Class := { plain "com/example/deltaweave/deltaweave/format/Bzip2InputStream" (some 4) with
  accessFlags := 48
  interfaces := #[]
  cf := some (fileOf pool5 8 #[.nestMembers #[133]] #[{ accessFlags := 0, nameIndex := 5, descriptorIndex := 221, attributes := #[] }, { accessFlags := 0, nameIndex := 227, descriptorIndex := 146, attributes := #[] }, { accessFlags := 2, nameIndex := 45, descriptorIndex := 6, attributes := #[] }, { accessFlags := 2, nameIndex := 115, descriptorIndex := 6, attributes := #[] }, { accessFlags := 2, nameIndex := 150, descriptorIndex := 55, attributes := #[] }, { accessFlags := 2, nameIndex := 124, descriptorIndex := 125, attributes := #[] }, { accessFlags := 2, nameIndex := 131, descriptorIndex := 132, attributes := #[] }, { accessFlags := 2, nameIndex := 137, descriptorIndex := 138, attributes := #[] }, { accessFlags := 2, nameIndex := 121, descriptorIndex := 6, attributes := #[] }, { accessFlags := 2, nameIndex := 26, descriptorIndex := 27, attributes := #[] }, { accessFlags := 2, nameIndex := 188, descriptorIndex := 185, attributes := #[] }, { accessFlags := 2, nameIndex := 176, descriptorIndex := 185, attributes := #[] }] 48 2 #[] #[{ accessFlags := 26, nameIndex := 202, descriptorIndex := 192, attributes := #[] }, { accessFlags := 26, nameIndex := 204, descriptorIndex := 192, attributes := #[] }, { accessFlags := 26, nameIndex := 205, descriptorIndex := 20, attributes := #[] }, { accessFlags := 26, nameIndex := 206, descriptorIndex := 20, attributes := #[] }, { accessFlags := 26, nameIndex := 208, descriptorIndex := 20, attributes := #[] }, { accessFlags := 26, nameIndex := 210, descriptorIndex := 20, attributes := #[] }, { accessFlags := 26, nameIndex := 212, descriptorIndex := 20, attributes := #[] }, { accessFlags := 26, nameIndex := 214, descriptorIndex := 20, attributes := #[] }, { accessFlags := 26, nameIndex := 216, descriptorIndex := 20, attributes := #[] }, { accessFlags := 26, nameIndex := 218, descriptorIndex := 20, attributes := #[] }, { accessFlags := 26, nameIndex := 220, descriptorIndex := 20, attributes := #[] }, { accessFlags := 26, nameIndex := 94, descriptorIndex := 12, attributes := #[] }, { accessFlags := 18, nameIndex := 15, descriptorIndex := 16, attributes := #[] }, { accessFlags := 18, nameIndex := 23, descriptorIndex := 20, attributes := #[] }, { accessFlags := 2, nameIndex := 19, descriptorIndex := 20, attributes := #[] }, { accessFlags := 2, nameIndex := 191, descriptorIndex := 192, attributes := #[] }, { accessFlags := 2, nameIndex := 77, descriptorIndex := 20, attributes := #[] }, { accessFlags := 18, nameIndex := 42, descriptorIndex := 20, attributes := #[] }, { accessFlags := 2, nameIndex := 11, descriptorIndex := 12, attributes := #[] }, { accessFlags := 2, nameIndex := 68, descriptorIndex := 20, attributes := #[] }, { accessFlags := 2, nameIndex := 100, descriptorIndex := 20, attributes := #[] }, { accessFlags := 2, nameIndex := 97, descriptorIndex := 20, attributes := #[] }, { accessFlags := 2, nameIndex := 104, descriptorIndex := 20, attributes := #[] }, { accessFlags := 2, nameIndex := 58, descriptorIndex := 59, attributes := #[] }, { accessFlags := 2, nameIndex := 65, descriptorIndex := 20, attributes := #[] }, { accessFlags := 2, nameIndex := 82, descriptorIndex := 20, attributes := #[] }, { accessFlags := 2, nameIndex := 85, descriptorIndex := 20, attributes := #[] }, { accessFlags := 2, nameIndex := 88, descriptorIndex := 20, attributes := #[] }, { accessFlags := 2, nameIndex := 91, descriptorIndex := 20, attributes := #[] }, { accessFlags := 2, nameIndex := 71, descriptorIndex := 20, attributes := #[] }])
  fields := #[{ name := "BLOCK_MAGIC", type := .long, accessFlags := 26, slot := 0, constantValue := 0 }, { name := "END_MAGIC", type := .long, accessFlags := 26, slot := 1, constantValue := 0 }, { name := "BLOCK_SIZE_UNIT", type := .int, accessFlags := 26, slot := 2, constantValue := 0 }, { name := "MIN_GROUPS", type := .int, accessFlags := 26, slot := 3, constantValue := 0 }, { name := "MAX_GROUPS", type := .int, accessFlags := 26, slot := 4, constantValue := 0 }, { name := "GROUP_SIZE", type := .int, accessFlags := 26, slot := 5, constantValue := 0 }, { name := "MAX_CODE_LENGTH", type := .int, accessFlags := 26, slot := 6, constantValue := 0 }, { name := "RUNA", type := .int, accessFlags := 26, slot := 7, constantValue := 0 }, { name := "RUNB", type := .int, accessFlags := 26, slot := 8, constantValue := 0 }, { name := "RUN_BEFORE_COUNT", type := .int, accessFlags := 26, slot := 9, constantValue := 0 }, { name := "INITIAL_BLOCK_CAPACITY", type := .int, accessFlags := 26, slot := 10, constantValue := 0 }, { name := "CRC_TABLE", type := (.array .int), accessFlags := 26, slot := 11, constantValue := 0 }, { name := "input", type := (.array .byte), accessFlags := 18, slot := 0, constantValue := 0 }, { name := "inputEnd", type := .int, accessFlags := 18, slot := 1, constantValue := 0 }, { name := "inputNext", type := .int, accessFlags := 2, slot := 2, constantValue := 0 }, { name := "bitBuffer", type := .long, accessFlags := 2, slot := 3, constantValue := 0 }, { name := "bitCount", type := .int, accessFlags := 2, slot := 4, constantValue := 0 }, { name := "blockSizeLimit", type := .int, accessFlags := 18, slot := 5, constantValue := 0 }, { name := "block", type := (.array .int), accessFlags := 2, slot := 6, constantValue := 0 }, { name := "blockLength", type := .int, accessFlags := 2, slot := 7, constantValue := 0 }, { name := "blockNumber", type := .int, accessFlags := 2, slot := 8, constantValue := 0 }, { name := "blockCrc", type := .int, accessFlags := 2, slot := 9, constantValue := 0 }, { name := "streamCrc", type := .int, accessFlags := 2, slot := 10, constantValue := 0 }, { name := "ended", type := .boolean, accessFlags := 2, slot := 11, constantValue := 0 }, { name := "blockRead", type := .int, accessFlags := 2, slot := 12, constantValue := 0 }, { name := "position", type := .int, accessFlags := 2, slot := 13, constantValue := 0 }, { name := "crc", type := .int, accessFlags := 2, slot := 14, constantValue := 0 }, { name := "lastByte", type := .int, accessFlags := 2, slot := 15, constantValue := 0 }, { name := "equalBytes", type := .int, accessFlags := 2, slot := 16, constantValue := 0 }, { name := "repeats", type := .int, accessFlags := 2, slot := 17, constantValue := 0 }]
  methods := #[k5m0, k5m1, k5m2, k5m3, k5m4, k5m5, k5m6, k5m7, k5m8, k5m9, k5m10, k5m11]
  instanceTypes := #[(.array .byte), .int, .int, .long, .int, .int, (.array .int), .int, .int, .int, .int, .boolean, .int, .int, .int, .int, .int, .int]
  staticTypes := #[.long, .long, .int, .int, .int, .int, .int, .int, .int, .int, .int, (.array .int)]
  resolved := Array.replicate 275 none
  statics := none }

def pool6 : Array CpInfo := pool [(2, .class_ 4), (1, u "java/lang/Object"), (0, u "<init>"), (0, u "()V"), (5, u "([IIII)V"), (0, .methodref 14 15), (0, .class_ 16), (0, .nameAndType 17 18), (0, u "java/util/Arrays"), (0, u "rangeCheck"), (0, u "(III)V"), (55, .class_ 76), (1, u "java/util/Arrays$NaturalOrder"), (36, .class_ 115), (1, u "java/util/Arrays$LegacyMergeSort"), (1, u "Z"), (32, .methodref 151 152), (0, .class_ 153), (0, .nameAndType 154 155), (0, u "java/lang/System"), (0, u "arraycopy"), (0, u "(Ljava/lang/Object;ILjava/lang/Object;II)V"), (146, u "copyOf"), (1, .methodref 305 306), (0, .class_ 307), (0, .nameAndType 308 309), (0, u "java/lang/Math"), (0, u "min"), (0, u "(II)I"), (65, .class_ 376), (0, u "java/util/Arrays$ArrayList"), (68, u "$assertionsDisabled"), (269, u "MIN_ARRAY_SORT_GRAN"), (0, u "I"), (2, u "INSERTIONSORT_THRESHOLD"), (120, u "fill"), (30, u "([II)[I"), (103, .class_ 976), (0, u "java/util/Arrays$ArrayItr")] 52

def k6m0 : Method := { name := "<init>", desc := "()V", sig := { parameters := [], returnType := none }, accessFlags := 2, code := none }
def k6c1 : Code := { maxStack := 4, maxLocals := 3, code := jdk_65_method_30_code, exceptionTable := #[], attributes := #[] }
def k6m1 : Method := { name := "rangeCheck", desc := "(III)V", sig := { parameters := [.int, .int, .int], returnType := none }, accessFlags := 8, code := some k6c1 }
def k6c2 : Code := { maxStack := 3, maxLocals := 5, code := jdk_65_method_104_code, exceptionTable := #[], attributes := #[] }
def k6m2 : Method := { name := "fill", desc := "([IIII)V", sig := { parameters := [(.array .int), .int, .int, .int], returnType := none }, accessFlags := 9, code := some k6c2 }
def k6c3 : Code := { maxStack := 6, maxLocals := 3, code := jdk_65_method_123_code, exceptionTable := #[], attributes := #[] }
def k6m3 : Method := { name := "copyOf", desc := "([II)[I", sig := { parameters := [(.array .int), .int], returnType := some (.array .int) }, accessFlags := 9, code := some k6c3 }
/-- java/util/Arrays -/
def k6 : Class := { plain "java/util/Arrays" (some 0) with
  accessFlags := 49
  interfaces := #[]
  cf := some (fileOf pool6 14 #[.nestMembers #[975, 375, 113, 74]] #[{ accessFlags := 2, nameIndex := 5, descriptorIndex := 6, attributes := #[] }, { accessFlags := 8, nameIndex := 17, descriptorIndex := 18, attributes := #[] }, { accessFlags := 9, nameIndex := 840, descriptorIndex := 12, attributes := #[] }, { accessFlags := 9, nameIndex := 302, descriptorIndex := 871, attributes := #[] }] 49 2 #[] #[{ accessFlags := 26, nameIndex := 715, descriptorIndex := 716, attributes := #[] }, { accessFlags := 26, nameIndex := 719, descriptorIndex := 716, attributes := #[] }, { accessFlags := 4120, nameIndex := 445, descriptorIndex := 117, attributes := #[] }])
  fields := #[{ name := "MIN_ARRAY_SORT_GRAN", type := .int, accessFlags := 26, slot := 0, constantValue := 0 }, { name := "INSERTIONSORT_THRESHOLD", type := .int, accessFlags := 26, slot := 1, constantValue := 0 }, { name := "$assertionsDisabled", type := .boolean, accessFlags := 4120, slot := 2, constantValue := 0 }]
  methods := #[k6m0, k6m1, k6m2, k6m3]
  instanceTypes := #[]
  staticTypes := #[.int, .int, .boolean]
  resolved := Array.replicate 1029 none
  statics := none }

def pool7 : Array CpInfo := pool [(1, .class_ 2), (0, u "java/lang/Math"), (1, .class_ 6), (1, u "java/lang/Object"), (0, u "<init>"), (0, u "()V"), (89, .class_ 100), (1, u "java/lang/Math$RandomNumberGeneratorHolder"), (71, u "negativeZeroFloatBits"), (0, u "J"), (2, u "negativeZeroDoubleBits"), (21, u "max"), (2, u "min"), (43, u "$assertionsDisabled"), (0, u "Z"), (88, u "(II)I"), (2, u "twoToTheDoubleScaleDown"), (0, u "D"), (4, u "twoToTheDoubleScaleUp"), (9, u "E"), (3, u "PI"), (2, u "TAU"), (2, u "DEGREES_TO_RADIANS"), (0, u "RADIANS_TO_DEGREES")] 94

def k7m0 : Method := { name := "<init>", desc := "()V", sig := { parameters := [], returnType := none }, accessFlags := 2, code := none }
def k7c1 : Code := { maxStack := 2, maxLocals := 2, code := jdk_29_method_65_code, exceptionTable := #[], attributes := #[] }
def k7m1 : Method := { name := "max", desc := "(II)I", sig := { parameters := [.int, .int], returnType := some .int }, accessFlags := 9, code := some k7c1 }
def k7c2 : Code := { maxStack := 2, maxLocals := 2, code := jdk_29_method_69_code, exceptionTable := #[], attributes := #[] }
def k7m2 : Method := { name := "min", desc := "(II)I", sig := { parameters := [.int, .int], returnType := some .int }, accessFlags := 9, code := some k7c2 }
/-- java/lang/Math -/
def k7 : Class := { plain "java/lang/Math" (some 0) with
  accessFlags := 49
  interfaces := #[]
  cf := some (fileOf pool7 1 #[.nestMembers #[98]] #[{ accessFlags := 2, nameIndex := 7, descriptorIndex := 8, attributes := #[] }, { accessFlags := 9, nameIndex := 198, descriptorIndex := 335, attributes := #[] }, { accessFlags := 9, nameIndex := 201, descriptorIndex := 335, attributes := #[] }] 49 4 #[] #[{ accessFlags := 25, nameIndex := 354, descriptorIndex := 339, attributes := #[] }, { accessFlags := 25, nameIndex := 358, descriptorIndex := 339, attributes := #[] }, { accessFlags := 25, nameIndex := 361, descriptorIndex := 339, attributes := #[] }, { accessFlags := 26, nameIndex := 364, descriptorIndex := 339, attributes := #[] }, { accessFlags := 26, nameIndex := 365, descriptorIndex := 339, attributes := #[] }, { accessFlags := 26, nameIndex := 172, descriptorIndex := 173, attributes := #[] }, { accessFlags := 26, nameIndex := 176, descriptorIndex := 173, attributes := #[] }, { accessFlags := 8, nameIndex := 344, descriptorIndex := 339, attributes := #[] }, { accessFlags := 8, nameIndex := 338, descriptorIndex := 339, attributes := #[] }, { accessFlags := 4120, nameIndex := 245, descriptorIndex := 246, attributes := #[] }])
  fields := #[{ name := "E", type := .double, accessFlags := 25, slot := 0, constantValue := 0 }, { name := "PI", type := .double, accessFlags := 25, slot := 1, constantValue := 0 }, { name := "TAU", type := .double, accessFlags := 25, slot := 2, constantValue := 0 }, { name := "DEGREES_TO_RADIANS", type := .double, accessFlags := 26, slot := 3, constantValue := 0 }, { name := "RADIANS_TO_DEGREES", type := .double, accessFlags := 26, slot := 4, constantValue := 0 }, { name := "negativeZeroFloatBits", type := .long, accessFlags := 26, slot := 5, constantValue := 0 }, { name := "negativeZeroDoubleBits", type := .long, accessFlags := 26, slot := 6, constantValue := 0 }, { name := "twoToTheDoubleScaleUp", type := .double, accessFlags := 8, slot := 7, constantValue := 0 }, { name := "twoToTheDoubleScaleDown", type := .double, accessFlags := 8, slot := 8, constantValue := 0 }, { name := "$assertionsDisabled", type := .boolean, accessFlags := 4120, slot := 9, constantValue := 0 }]
  methods := #[k7m0, k7m1, k7m2]
  instanceTypes := #[]
  staticTypes := #[.double, .double, .double, .double, .double, .long, .long, .double, .double, .boolean]
  resolved := Array.replicate 460 none
  statics := none }

def pool8 : Array CpInfo := pool [(2, .class_ 4), (1, u "java/lang/Object"), (0, u "<init>"), (0, u "()V"), (1, .class_ 10), (1, u "java/lang/System"), (0, u "allowSecurityManager"), (0, u "I"), (16, u "cons"), (0, u "Ljava/io/Console;"), (77, .class_ 110), (1, u "java/lang/System$CallersHolder"), (43, u "initialErrStream"), (0, u "Ljava/io/PrintStream;"), (19, u "security"), (0, u "Ljava/lang/SecurityManager;"), (31, .class_ 209), (0, u "java/lang/System$1"), (7, u "props"), (0, u "Ljava/util/Properties;"), (2, u "lineSeparator"), (0, u "Ljava/lang/String;"), (96, .class_ 321), (1, u "java/lang/System$LoggerFinder"), (5, .class_ 328), (0, u "java/lang/System$Logger"), (67, u "err"), (2, u "out"), (91, u "notSupportedJnuEncoding"), (15, u "in"), (17, u "initialIn"), (0, u "Ljava/io/InputStream;"), (35, u "bootLayer"), (0, u "Ljava/lang/ModuleLayer;"), (99, .class_ 664), (0, u "java/lang/System$2"), (9, u "NEVER"), (2, u "MAYBE"), (49, u "arraycopy"), (0, u "(Ljava/lang/Object;ILjava/lang/Object;II)V"), (72, .class_ 802), (0, u "java/lang/System$Logger$Level")] 31

def k8m0 : Method := { name := "<init>", desc := "()V", sig := { parameters := [], returnType := none }, accessFlags := 2, code := none }
def k8m1 : Method := { name := "arraycopy", desc := "(Ljava/lang/Object;ILjava/lang/Object;II)V", sig := { parameters := [(.object "java/lang/Object"), .int, (.object "java/lang/Object"), .int, .int], returnType := none }, accessFlags := 265, code := none }
/-- java/lang/System -/
def k8 : Class := { plain "java/lang/System" (some 0) with
  accessFlags := 49
  interfaces := #[]
  cf := some (fileOf pool8 8 #[.nestMembers #[319, 327, 801, 108, 663, 208]] #[{ accessFlags := 2, nameIndex := 5, descriptorIndex := 6, attributes := #[] }, { accessFlags := 265, nameIndex := 727, descriptorIndex := 728, attributes := #[] }] 49 2 #[] #[{ accessFlags := 25, nameIndex := 507, descriptorIndex := 526, attributes := #[] }, { accessFlags := 25, nameIndex := 399, descriptorIndex := 155, attributes := #[] }, { accessFlags := 25, nameIndex := 396, descriptorIndex := 155, attributes := #[] }, { accessFlags := 10, nameIndex := 525, descriptorIndex := 526, attributes := #[] }, { accessFlags := 26, nameIndex := 674, descriptorIndex := 12, attributes := #[] }, { accessFlags := 26, nameIndex := 677, descriptorIndex := 12, attributes := #[] }, { accessFlags := 10, nameIndex := 11, descriptorIndex := 12, attributes := #[] }, { accessFlags := 74, nameIndex := 175, descriptorIndex := 176, attributes := #[] }, { accessFlags := 10, nameIndex := 491, descriptorIndex := 222, attributes := #[] }, { accessFlags := 74, nameIndex := 29, descriptorIndex := 30, attributes := #[] }, { accessFlags := 74, nameIndex := 154, descriptorIndex := 155, attributes := #[] }, { accessFlags := 10, nameIndex := 217, descriptorIndex := 218, attributes := #[] }, { accessFlags := 10, nameIndex := 221, descriptorIndex := 222, attributes := #[] }, { accessFlags := 8, nameIndex := 562, descriptorIndex := 563, attributes := #[] }])
  fields := #[{ name := "in", type := (.object "java/io/InputStream"), accessFlags := 25, slot := 0, constantValue := 0 }, { name := "out", type := (.object "java/io/PrintStream"), accessFlags := 25, slot := 1, constantValue := 0 }, { name := "err", type := (.object "java/io/PrintStream"), accessFlags := 25, slot := 2, constantValue := 0 }, { name := "initialIn", type := (.object "java/io/InputStream"), accessFlags := 10, slot := 3, constantValue := 0 }, { name := "NEVER", type := .int, accessFlags := 26, slot := 4, constantValue := 0 }, { name := "MAYBE", type := .int, accessFlags := 26, slot := 5, constantValue := 0 }, { name := "allowSecurityManager", type := .int, accessFlags := 10, slot := 6, constantValue := 0 }, { name := "security", type := (.object "java/lang/SecurityManager"), accessFlags := 74, slot := 7, constantValue := 0 }, { name := "notSupportedJnuEncoding", type := (.object "java/lang/String"), accessFlags := 10, slot := 8, constantValue := 0 }, { name := "cons", type := (.object "java/io/Console"), accessFlags := 74, slot := 9, constantValue := 0 }, { name := "initialErrStream", type := (.object "java/io/PrintStream"), accessFlags := 74, slot := 10, constantValue := 0 }, { name := "props", type := (.object "java/util/Properties"), accessFlags := 10, slot := 11, constantValue := 0 }, { name := "lineSeparator", type := (.object "java/lang/String"), accessFlags := 10, slot := 12, constantValue := 0 }, { name := "bootLayer", type := (.object "java/lang/ModuleLayer"), accessFlags := 8, slot := 13, constantValue := 0 }]
  methods := #[k8m0, k8m1]
  instanceTypes := #[]
  staticTypes := #[(.object "java/io/InputStream"), (.object "java/io/PrintStream"), (.object "java/io/PrintStream"), (.object "java/io/InputStream"), .int, .int, .int, (.object "java/lang/SecurityManager"), (.object "java/lang/String"), (.object "java/io/Console"), (.object "java/io/PrintStream"), (.object "java/util/Properties"), (.object "java/lang/String"), (.object "java/lang/ModuleLayer")]
  resolved := Array.replicate 834 none
  statics := none }

def pool9 : Array CpInfo := pool [(1, .class_ 2), (0, u "com/example/deltaweave/deltaweave/format/Bzip2InputStream"), (0, .fieldref 4 5), (0, .class_ 6), (0, .nameAndType 7 8), (0, u "com/example/deltaweave/deltaweave/format/Bzip2InputStream$HuffmanTable"), (0, u "this$0"), (0, u "Lcom/example/deltaweave/deltaweave/format/Bzip2InputStream;"), (0, .methodref 10 11), (0, .class_ 12), (0, .nameAndType 13 14), (0, u "java/lang/Object"), (0, u "<init>"), (0, u "()V"), (0, .fieldref 4 16), (0, .nameAndType 17 18), (0, u "lookup"), (0, u "[I"), (0, .fieldref 4 20), (0, .nameAndType 21 18), (0, u "firstCode"), (0, .fieldref 4 23), (0, .nameAndType 24 18), (0, u "codeCount"), (0, .fieldref 4 26), (0, .nameAndType 27 18), (0, u "firstIndex"), (0, .long 2), (6, u "I"), (7, .fieldref 4 44), (0, .nameAndType 45 18), (0, u "symbolsByCode"), (0, .methodref 47 48), (0, .class_ 18), (0, .nameAndType 49 50), (0, u "clone"), (0, u "()Ljava/lang/Object;"), (0, .methodref 52 53), (0, .class_ 54), (0, .nameAndType 55 56), (0, u "java/util/Arrays"), (0, u "fill"), (0, u "([IIII)V"), (0, .methodref 1 58), (0, .nameAndType 55 59), (0, u "(I)V"), (0, .fieldref 1 61), (0, .nameAndType 62 35), (0, u "bitCount"), (0, .fieldref 1 64), (0, .nameAndType 65 66), (0, u "bitBuffer"), (0, u "J"), (0, .long 1048575), (2, .methodref 1 71), (0, .nameAndType 72 59), (0, u "consume"), (0, u "LOOKUP_BITS"), (2, u "(Lcom/example/deltaweave/deltaweave/format/Bzip2InputStream;[I)V"), (5, u "decode"), (0, u "()I")] 21

def k9c0 : Code := { maxStack := 5, maxLocals := 13, code := prog_15_method_1_code, exceptionTable := #[], attributes := #[] }
def k9m0 : Method := { name := "<init>", desc := "(Lcom/example/deltaweave/deltaweave/format/Bzip2InputStream;[I)V", sig := { parameters := [(.object "com/example/deltaweave/deltaweave/format/Bzip2InputStream"), (.array .int)], returnType := none }, accessFlags := 0, code := some k9c0 }
def k9c1 : Code := { maxStack := 5, maxLocals := 7, code := prog_15_method_2_code, exceptionTable := #[], attributes := #[] }
def k9m1 : Method := { name := "decode", desc := "()I", sig := { parameters := [], returnType := some .int }, accessFlags := 0, code := some k9c1 }
/-- com/example/deltaweave/deltaweave/format/Bzip2InputStream$HuffmanTable -/
def k9 : Class := { plain "com/example/deltaweave/deltaweave/format/Bzip2InputStream$HuffmanTable" (some 0) with
  accessFlags := 48
  interfaces := #[]
  cf := some (fileOf pool9 4 #[.nestHost 1] #[{ accessFlags := 0, nameIndex := 13, descriptorIndex := 76, attributes := #[] }, { accessFlags := 0, nameIndex := 82, descriptorIndex := 83, attributes := #[] }] 48 10 #[] #[{ accessFlags := 26, nameIndex := 73, descriptorIndex := 35, attributes := #[] }, { accessFlags := 18, nameIndex := 17, descriptorIndex := 18, attributes := #[] }, { accessFlags := 18, nameIndex := 21, descriptorIndex := 18, attributes := #[] }, { accessFlags := 18, nameIndex := 24, descriptorIndex := 18, attributes := #[] }, { accessFlags := 18, nameIndex := 27, descriptorIndex := 18, attributes := #[] }, { accessFlags := 18, nameIndex := 45, descriptorIndex := 18, attributes := #[] }, { accessFlags := 4112, nameIndex := 7, descriptorIndex := 8, attributes := #[] }])
  fields := #[{ name := "LOOKUP_BITS", type := .int, accessFlags := 26, slot := 0, constantValue := 0 }, { name := "lookup", type := (.array .int), accessFlags := 18, slot := 0, constantValue := 0 }, { name := "firstCode", type := (.array .int), accessFlags := 18, slot := 1, constantValue := 0 }, { name := "codeCount", type := (.array .int), accessFlags := 18, slot := 2, constantValue := 0 }, { name := "firstIndex", type := (.array .int), accessFlags := 18, slot := 3, constantValue := 0 }, { name := "symbolsByCode", type := (.array .int), accessFlags := 18, slot := 4, constantValue := 0 }, { name := "this$0", type := (.object "com/example/deltaweave/deltaweave/format/Bzip2InputStream"), accessFlags := 4112, slot := 5, constantValue := 0 }]
  methods := #[k9m0, k9m1]
  instanceTypes := #[(.array .int), (.array .int), (.array .int), (.array .int), (.array .int), (.object "com/example/deltaweave/deltaweave/format/Bzip2InputStream")]
  staticTypes := #[.int]
  resolved := Array.replicate 105 none
  statics := none }

def pool10 : Array CpInfo := pool [(1, .class_ 2), (0, u "java/lang/Cloneable"), (0, .class_ 4), (0, u "java/lang/Object")] 2

/-- java/lang/Cloneable -/
def k10 : Class := { plain "java/lang/Cloneable" (some 0) with
  accessFlags := 1537
  interfaces := #[]
  cf := some (fileOf pool10 1 #[] #[] 1537 3 #[] #[])
  fields := #[]
  methods := #[]
  instanceTypes := #[]
  staticTypes := #[]
  resolved := Array.replicate 7 none
  statics := none }

def pool11 : Array CpInfo := pool [(1, u "java/io/Serializable"), (0, .class_ 1), (0, u "java/lang/Object"), (0, .class_ 3)] 3

/-- java/io/Serializable -/
def k11 : Class := { plain "java/io/Serializable" (some 0) with
  accessFlags := 1537
  interfaces := #[]
  cf := some (fileOf pool11 2 #[] #[] 1537 4 #[] #[])
  fields := #[]
  methods := #[]
  instanceTypes := #[]
  staticTypes := #[]
  resolved := Array.replicate 8 none
  statics := none }

/-- the primitive byte -/
def k12 : Class := { plain "byte" none with kind := .primitive 'B', accessFlags := 0x411 }
/-- [B -/
def k13 : Class := { plain "[B" (some 0) with kind := .array 12 .byte, interfaces := #[10, 11], accessFlags := 1041 }

/-- the primitive int -/
def k14 : Class := { plain "int" none with kind := .primitive 'I', accessFlags := 0x411 }
/-- [I -/
def k15 : Class := { plain "[I" (some 0) with kind := .array 14 .int, interfaces := #[10, 11], accessFlags := 1041 }

/-- [Lcom/example/deltaweave/deltaweave/format/Bzip2InputStream$HuffmanTable; -/
def k16 : Class := { plain "[Lcom/example/deltaweave/deltaweave/format/Bzip2InputStream$HuffmanTable;" (some 0) with kind := .array 9 (.object "com/example/deltaweave/deltaweave/format/Bzip2InputStream$HuffmanTable"), interfaces := #[10, 11], accessFlags := 1041 }

def heap : Heap := #[]
def classes : Array Class := #[k0, k1, k2, k3, k4, k5, k6, k7, k8, k9, k10, k11, k12, k13, k14, k15, k16]
def interned : List (Array UInt16 × Addr) := []
def slotsUsed : Nat := 0
def theMethod : MethodId := ⟨1, 1⟩
def args0 : Array Value := #[.int 5, .int 37, .int 7, .long 9]
def aboutOver (below : List Frame) : State where
  vm := { classes := classes, interned := interned.toArray }
  heap := heap
  slotsUsed := slotsUsed
  threads := #[{ frames := .invoking theMethod args0 :: below }]
def below0 : List Frame := [.native { method := ⟨0, 0⟩, args := #[] }]
def about1 : State := aboutOver below0
def p0 : Program := .bare "" "" ""
def e0 : Env := launch0.env 0 0 0
theorem w_frames : about1.frames = Frame.invoking theMethod args0 :: below0 := rfl
set_option maxRecDepth 65536 in
theorem w_args : argsFit about1.vm theMethod args0 = true := by decide +kernel
set_option maxRecDepth 65536 in
theorem w_heap : heapFits about1 = true := by decide +kernel
set_option maxRecDepth 65536 in
theorem w_runnable : about1.curStatus? = some .runnable := by decide +kernel
set_option maxRecDepth 65536 in
theorem w_alone : about1.alone = true := by decide +kernel
set_option maxRecDepth 65536 in
theorem w_named : about1.methodNamed? x = some theMethod := by decide +kernel
set_option maxRecDepth 65536 in
theorem w_hears : about1.hears theMethod below0 = true := by decide +kernel
set_option maxRecDepth 65536 in
theorem w_ripe : about1.ripe theMethod args0 below0 = true := by decide +kernel
theorem w_running : about1.status = .running := rfl
set_option maxRecDepth 65536 in
theorem w_room : about1.hasRoom e0.platform room_1 = true :=
  launch0.hasRoom_least _ room_1 (by decide +kernel) (by decide +kernel) (by decide +kernel) (by decide +kernel) (by decide +kernel) (by decide +kernel)
theorem allAtoms_all (ts : List Jvm.Cond) (a : Array Jvm.Value) (st : Jvm.State) : (allAtoms ts).before a st = ts.all (fun c => c.before a st) := by
  induction ts with
  | nil => rfl
  | cons c t ih =>
    show (Jvm.Cond.and c (allAtoms t)).before a st = _
    rw [Jvm.Cond.before_and, ih, List.all_cons]
def words1 : List Jvm.Cond := Jvm.Cond.code x code maxLocals ret :: tables_1
/-- a 'code' word, met by the world's own term for the bytes: nothing is compared byte by byte -/
theorem code_word {y : MethodName} {bytes : ByteArray} {mx : Nat} {rt : Option FieldType} {a : Array Value} {s : State} {m : MethodId} {meth : Method} {c : Code} (h1 : s.methodNamed? y = some m) (h2 : s.vm.method? m = some meth) (h3 : meth.code = some c) (h4 : c.code = bytes)
    (h5 : (c.maxLocals == mx && c.exceptionTable.isEmpty && decide (c.maxStack ≤ mostOperands) && decide (meth.sig.returnType = rt) && !meth.locks && decide (parseMethodDescriptor y.desc = some meth.sig)) = true) : (Jvm.Cond.code y bytes mx rt).before a s = true := by
  simp only [Bool.and_eq_true, beq_iff_eq, Bool.not_eq_true', decide_eq_true_eq] at h5
  obtain ⟨⟨⟨⟨⟨g1, g2⟩, g3⟩, g4⟩, g5⟩, g6⟩ := h5
  simp [Cond.before, Cond.holds, Cond.value, h1, h2, h3, h4, g1, g2, g3, g4, g5, g6]
def isCode : Jvm.Cond → Bool
  | .code _ _ _ _ => true
  | _ => false
theorem all_split {L : List Jvm.Cond} {P : Jvm.Cond → Bool} (h1 : L.all (fun c => isCode c || P c) = true) (h2 : ∀ c ∈ L.filter isCode, P c = true) : L.all P = true := by
  refine List.all_eq_true.mpr fun c hc => ?_
  have h := List.all_eq_true.mp h1 c hc
  rcases Bool.eq_false_or_eq_true (isCode c) with hi | hi
  · exact h2 c (List.mem_filter.mpr ⟨hc, hi⟩)
  · simpa [hi] using h
set_option maxRecDepth 65536 in
theorem w_c0 : (Jvm.Cond.code x code maxLocals ret).before args0 about1 = true := code_word (m := ⟨1, 1⟩) (meth := k1m1) (c := k1c1) (by decide +kernel) rfl rfl rfl (by decide +kernel)
set_option maxRecDepth 65536 in
theorem w_c1 : (Jvm.Cond.code ({ cls := "com/example/deltaweave/deltaweave/format/Bzip2InputStream", name := "<init>", desc := "([BII)V" } : Jvm.MethodName) prog_14_method_1_code (5 : Nat) (Option.none : Option Jvm.ClassFile.FieldType)).before args0 about1 = true := code_word (m := ⟨5, 0⟩) (meth := k5m0) (c := k5c0) (by decide +kernel) rfl rfl rfl (by decide +kernel)
set_option maxRecDepth 65536 in
theorem w_c2 : (Jvm.Cond.code ({ cls := "java/io/InputStream", name := "<init>", desc := "()V" } : Jvm.MethodName) jdk_2022_method_1_code (1 : Nat) (Option.none : Option Jvm.ClassFile.FieldType)).before args0 about1 = true := code_word (m := ⟨4, 0⟩) (meth := k4m0) (c := k4c0) (by decide +kernel) rfl rfl rfl (by decide +kernel)
set_option maxRecDepth 65536 in
theorem w_c3 : (Jvm.Cond.code ({ cls := "java/lang/Object", name := "<init>", desc := "()V" } : Jvm.MethodName) object_method_1_code (1 : Nat) (Option.none : Option Jvm.ClassFile.FieldType)).before args0 about1 = true := code_word (m := ⟨0, 0⟩) (meth := k0m0) (c := k0c0) (by decide +kernel) rfl rfl rfl (by decide +kernel)
set_option maxRecDepth 65536 in
theorem w_c4 : (Jvm.Cond.code ({ cls := "com/example/deltaweave/deltaweave/format/Bzip2InputStream", name := "readBits", desc := "(I)I" } : Jvm.MethodName) prog_14_method_14_code (2 : Nat) (Option.some Jvm.ClassFile.FieldType.int)).before args0 about1 = true := code_word (m := ⟨5, 9⟩) (meth := k5m9) (c := k5c9) (by decide +kernel) rfl rfl rfl (by decide +kernel)
set_option maxRecDepth 65536 in
theorem w_c5 : (Jvm.Cond.code ({ cls := "com/example/deltaweave/deltaweave/format/Bzip2InputStream", name := "fill", desc := "(I)V" } : Jvm.MethodName) prog_14_method_16_code (2 : Nat) (Option.none : Option Jvm.ClassFile.FieldType)).before args0 about1 = true := code_word (m := ⟨5, 11⟩) (meth := k5m11) (c := k5c11) (by decide +kernel) rfl rfl rfl (by decide +kernel)
set_option maxRecDepth 65536 in
theorem w_c6 : (Jvm.Cond.code ({ cls := "com/example/deltaweave/deltaweave/format/Bzip2InputStream", name := "consume", desc := "(I)V" } : Jvm.MethodName) prog_14_method_15_code (2 : Nat) (Option.none : Option Jvm.ClassFile.FieldType)).before args0 about1 = true := code_word (m := ⟨5, 10⟩) (meth := k5m10) (c := k5c10) (by decide +kernel) rfl rfl rfl (by decide +kernel)
set_option maxRecDepth 65536 in
theorem w_c7 : (Jvm.Cond.code ({ cls := "com/example/deltaweave/deltaweave/format/Bzip2InputStream", name := "nextBlock", desc := "()V" } : Jvm.MethodName) prog_14_method_7_code (4 : Nat) (Option.none : Option Jvm.ClassFile.FieldType)).before args0 about1 = true := code_word (m := ⟨5, 2⟩) (meth := k5m2) (c := k5c2) (by decide +kernel) rfl rfl rfl (by decide +kernel)
set_option maxRecDepth 65536 in
theorem w_c8 : (Jvm.Cond.code ({ cls := "com/example/deltaweave/deltaweave/format/Bzip2InputStream", name := "unusedBytes", desc := "()I" } : Jvm.MethodName) prog_14_method_4_code (1 : Nat) (Option.some Jvm.ClassFile.FieldType.int)).before args0 about1 = true := code_word (m := ⟨5, 1⟩) (meth := k5m1) (c := k5c1) (by decide +kernel) rfl rfl rfl (by decide +kernel)
set_option maxRecDepth 65536 in
theorem w_c9 : (Jvm.Cond.code ({ cls := "com/example/deltaweave/deltaweave/format/Bzip2InputStream", name := "readBlock", desc := "()V" } : Jvm.MethodName) prog_14_method_8_code (17 : Nat) (Option.none : Option Jvm.ClassFile.FieldType)).before args0 about1 = true := code_word (m := ⟨5, 3⟩) (meth := k5m3) (c := k5c3) (by decide +kernel) rfl rfl rfl (by decide +kernel)
set_option maxRecDepth 65536 in
theorem w_c10 : (Jvm.Cond.code ({ cls := "com/example/deltaweave/deltaweave/format/Bzip2InputStream", name := "readByteValues", desc := "()[I" } : Jvm.MethodName) prog_14_method_10_code (7 : Nat) (Option.some (Jvm.ClassFile.FieldType.array Jvm.ClassFile.FieldType.int))).before args0 about1 = true := code_word (m := ⟨5, 5⟩) (meth := k5m5) (c := k5c5) (by decide +kernel) rfl rfl rfl (by decide +kernel)
set_option maxRecDepth 65536 in
theorem w_c11 : (Jvm.Cond.code ({ cls := "java/util/Arrays", name := "copyOf", desc := "([II)[I" } : Jvm.MethodName) jdk_65_method_123_code (3 : Nat) (Option.some (Jvm.ClassFile.FieldType.array Jvm.ClassFile.FieldType.int))).before args0 about1 = true := code_word (m := ⟨6, 3⟩) (meth := k6m3) (c := k6c3) (by decide +kernel) rfl rfl rfl (by decide +kernel)
set_option maxRecDepth 65536 in
theorem w_c12 : (Jvm.Cond.code ({ cls := "java/lang/Math", name := "min", desc := "(II)I" } : Jvm.MethodName) jdk_29_method_69_code (2 : Nat) (Option.some Jvm.ClassFile.FieldType.int)).before args0 about1 = true := code_word (m := ⟨7, 2⟩) (meth := k7m2) (c := k7c2) (by decide +kernel) rfl rfl rfl (by decide +kernel)
set_option maxRecDepth 65536 in
theorem w_c13 : (Jvm.Cond.code ({ cls := "com/example/deltaweave/deltaweave/format/Bzip2InputStream", name := "readSelectors", desc := "(I)[B" } : Jvm.MethodName) prog_14_method_11_code (8 : Nat) (Option.some (Jvm.ClassFile.FieldType.array Jvm.ClassFile.FieldType.byte))).before args0 about1 = true := code_word (m := ⟨5, 6⟩) (meth := k5m6) (c := k5c6) (by decide +kernel) rfl rfl rfl (by decide +kernel)
set_option maxRecDepth 65536 in
theorem w_c14 : (Jvm.Cond.code ({ cls := "com/example/deltaweave/deltaweave/format/Bzip2InputStream", name := "readCodeLengths", desc := "(I)[I" } : Jvm.MethodName) prog_14_method_12_code (5 : Nat) (Option.some (Jvm.ClassFile.FieldType.array Jvm.ClassFile.FieldType.int))).before args0 about1 = true := code_word (m := ⟨5, 7⟩) (meth := k5m7) (c := k5c7) (by decide +kernel) rfl rfl rfl (by decide +kernel)
set_option maxRecDepth 65536 in
theorem w_c15 : (Jvm.Cond.code ({ cls := "com/example/deltaweave/deltaweave/format/Bzip2InputStream$HuffmanTable", name := "<init>", desc := "(Lcom/example/deltaweave/deltaweave/format/Bzip2InputStream;[I)V" } : Jvm.MethodName) prog_15_method_1_code (13 : Nat) (Option.none : Option Jvm.ClassFile.FieldType)).before args0 about1 = true := code_word (m := ⟨9, 0⟩) (meth := k9m0) (c := k9c0) (by decide +kernel) rfl rfl rfl (by decide +kernel)
set_option maxRecDepth 65536 in
theorem w_c16 : (Jvm.Cond.code ({ cls := "java/util/Arrays", name := "fill", desc := "([IIII)V" } : Jvm.MethodName) jdk_65_method_104_code (5 : Nat) (Option.none : Option Jvm.ClassFile.FieldType)).before args0 about1 = true := code_word (m := ⟨6, 2⟩) (meth := k6m2) (c := k6c2) (by decide +kernel) rfl rfl rfl (by decide +kernel)
set_option maxRecDepth 65536 in
theorem w_c17 : (Jvm.Cond.code ({ cls := "java/util/Arrays", name := "rangeCheck", desc := "(III)V" } : Jvm.MethodName) jdk_65_method_30_code (3 : Nat) (Option.none : Option Jvm.ClassFile.FieldType)).before args0 about1 = true := code_word (m := ⟨6, 1⟩) (meth := k6m1) (c := k6c1) (by decide +kernel) rfl rfl rfl (by decide +kernel)
set_option maxRecDepth 65536 in
theorem w_c18 : (Jvm.Cond.code ({ cls := "com/example/deltaweave/deltaweave/format/Bzip2InputStream$HuffmanTable", name := "decode", desc := "()I" } : Jvm.MethodName) prog_15_method_2_code (7 : Nat) (Option.some Jvm.ClassFile.FieldType.int)).before args0 about1 = true := code_word (m := ⟨9, 1⟩) (meth := k9m1) (c := k9c1) (by decide +kernel) rfl rfl rfl (by decide +kernel)
set_option maxRecDepth 65536 in
theorem w_c19 : (Jvm.Cond.code ({ cls := "com/example/deltaweave/deltaweave/format/Bzip2InputStream", name := "append", desc := "(III)I" } : Jvm.MethodName) prog_14_method_9_code (6 : Nat) (Option.some Jvm.ClassFile.FieldType.int)).before args0 about1 = true := code_word (m := ⟨5, 4⟩) (meth := k5m4) (c := k5c4) (by decide +kernel) rfl rfl rfl (by decide +kernel)
set_option maxRecDepth 65536 in
theorem w_c20 : (Jvm.Cond.code ({ cls := "java/lang/Math", name := "max", desc := "(II)I" } : Jvm.MethodName) jdk_29_method_65_code (2 : Nat) (Option.some Jvm.ClassFile.FieldType.int)).before args0 about1 = true := code_word (m := ⟨7, 1⟩) (meth := k7m1) (c := k7c1) (by decide +kernel) rfl rfl rfl (by decide +kernel)
set_option maxRecDepth 65536 in
theorem w_c21 : (Jvm.Cond.code ({ cls := "com/example/deltaweave/deltaweave/format/Bzip2InputStream", name := "linkBlock", desc := "()V" } : Jvm.MethodName) prog_14_method_13_code (5 : Nat) (Option.none : Option Jvm.ClassFile.FieldType)).before args0 about1 = true := code_word (m := ⟨5, 8⟩) (meth := k5m8) (c := k5c8) (by decide +kernel) rfl rfl rfl (by decide +kernel)
def codes1 : List Jvm.Cond := [Jvm.Cond.code x code maxLocals ret, Jvm.Cond.code ({ cls := "com/example/deltaweave/deltaweave/format/Bzip2InputStream", name := "<init>", desc := "([BII)V" } : Jvm.MethodName) prog_14_method_1_code (5 : Nat) (Option.none : Option Jvm.ClassFile.FieldType), Jvm.Cond.code ({ cls := "java/io/InputStream", name := "<init>", desc := "()V" } : Jvm.MethodName) jdk_2022_method_1_code (1 : Nat) (Option.none : Option Jvm.ClassFile.FieldType), Jvm.Cond.code ({ cls := "java/lang/Object", name := "<init>", desc := "()V" } : Jvm.MethodName) object_method_1_code (1 : Nat) (Option.none : Option Jvm.ClassFile.FieldType), Jvm.Cond.code ({ cls := "com/example/deltaweave/deltaweave/format/Bzip2InputStream", name := "readBits", desc := "(I)I" } : Jvm.MethodName) prog_14_method_14_code (2 : Nat) (Option.some Jvm.ClassFile.FieldType.int), Jvm.Cond.code ({ cls := "com/example/deltaweave/deltaweave/format/Bzip2InputStream", name := "fill", desc := "(I)V" } : Jvm.MethodName) prog_14_method_16_code (2 : Nat) (Option.none : Option Jvm.ClassFile.FieldType), Jvm.Cond.code ({ cls := "com/example/deltaweave/deltaweave/format/Bzip2InputStream", name := "consume", desc := "(I)V" } : Jvm.MethodName) prog_14_method_15_code (2 : Nat) (Option.none : Option Jvm.ClassFile.FieldType), Jvm.Cond.code ({ cls := "com/example/deltaweave/deltaweave/format/Bzip2InputStream", name := "nextBlock", desc := "()V" } : Jvm.MethodName) prog_14_method_7_code (4 : Nat) (Option.none : Option Jvm.ClassFile.FieldType), Jvm.Cond.code ({ cls := "com/example/deltaweave/deltaweave/format/Bzip2InputStream", name := "unusedBytes", desc := "()I" } : Jvm.MethodName) prog_14_method_4_code (1 : Nat) (Option.some Jvm.ClassFile.FieldType.int), Jvm.Cond.code ({ cls := "com/example/deltaweave/deltaweave/format/Bzip2InputStream", name := "readBlock", desc := "()V" } : Jvm.MethodName) prog_14_method_8_code (17 : Nat) (Option.none : Option Jvm.ClassFile.FieldType), Jvm.Cond.code ({ cls := "com/example/deltaweave/deltaweave/format/Bzip2InputStream", name := "readByteValues", desc := "()[I" } : Jvm.MethodName) prog_14_method_10_code (7 : Nat) (Option.some (Jvm.ClassFile.FieldType.array Jvm.ClassFile.FieldType.int)), Jvm.Cond.code ({ cls := "java/util/Arrays", name := "copyOf", desc := "([II)[I" } : Jvm.MethodName) jdk_65_method_123_code (3 : Nat) (Option.some (Jvm.ClassFile.FieldType.array Jvm.ClassFile.FieldType.int)), Jvm.Cond.code ({ cls := "java/lang/Math", name := "min", desc := "(II)I" } : Jvm.MethodName) jdk_29_method_69_code (2 : Nat) (Option.some Jvm.ClassFile.FieldType.int), Jvm.Cond.code ({ cls := "com/example/deltaweave/deltaweave/format/Bzip2InputStream", name := "readSelectors", desc := "(I)[B" } : Jvm.MethodName) prog_14_method_11_code (8 : Nat) (Option.some (Jvm.ClassFile.FieldType.array Jvm.ClassFile.FieldType.byte)), Jvm.Cond.code ({ cls := "com/example/deltaweave/deltaweave/format/Bzip2InputStream", name := "readCodeLengths", desc := "(I)[I" } : Jvm.MethodName) prog_14_method_12_code (5 : Nat) (Option.some (Jvm.ClassFile.FieldType.array Jvm.ClassFile.FieldType.int)), Jvm.Cond.code ({ cls := "com/example/deltaweave/deltaweave/format/Bzip2InputStream$HuffmanTable", name := "<init>", desc := "(Lcom/example/deltaweave/deltaweave/format/Bzip2InputStream;[I)V" } : Jvm.MethodName) prog_15_method_1_code (13 : Nat) (Option.none : Option Jvm.ClassFile.FieldType), Jvm.Cond.code ({ cls := "java/util/Arrays", name := "fill", desc := "([IIII)V" } : Jvm.MethodName) jdk_65_method_104_code (5 : Nat) (Option.none : Option Jvm.ClassFile.FieldType), Jvm.Cond.code ({ cls := "java/util/Arrays", name := "rangeCheck", desc := "(III)V" } : Jvm.MethodName) jdk_65_method_30_code (3 : Nat) (Option.none : Option Jvm.ClassFile.FieldType), Jvm.Cond.code ({ cls := "com/example/deltaweave/deltaweave/format/Bzip2InputStream$HuffmanTable", name := "decode", desc := "()I" } : Jvm.MethodName) prog_15_method_2_code (7 : Nat) (Option.some Jvm.ClassFile.FieldType.int), Jvm.Cond.code ({ cls := "com/example/deltaweave/deltaweave/format/Bzip2InputStream", name := "append", desc := "(III)I" } : Jvm.MethodName) prog_14_method_9_code (6 : Nat) (Option.some Jvm.ClassFile.FieldType.int), Jvm.Cond.code ({ cls := "java/lang/Math", name := "max", desc := "(II)I" } : Jvm.MethodName) jdk_29_method_65_code (2 : Nat) (Option.some Jvm.ClassFile.FieldType.int), Jvm.Cond.code ({ cls := "com/example/deltaweave/deltaweave/format/Bzip2InputStream", name := "linkBlock", desc := "()V" } : Jvm.MethodName) prog_14_method_13_code (5 : Nat) (Option.none : Option Jvm.ClassFile.FieldType)]
set_option maxRecDepth 65536 in
theorem codes_eq : words1.filter isCode = codes1 := rfl
theorem w_codes : ∀ c ∈ words1.filter isCode, c.before args0 about1 = true := by
  rw [codes_eq]
  intro c hc
  simp only [codes1, List.mem_cons, List.not_mem_nil, or_false] at hc
  rcases hc with rfl | rfl | rfl | rfl | rfl | rfl | rfl | rfl | rfl | rfl | rfl | rfl | rfl | rfl | rfl | rfl | rfl | rfl | rfl | rfl | rfl | rfl
  · exact w_c0
  · exact w_c1
  · exact w_c2
  · exact w_c3
  · exact w_c4
  · exact w_c5
  · exact w_c6
  · exact w_c7
  · exact w_c8
  · exact w_c9
  · exact w_c10
  · exact w_c11
  · exact w_c12
  · exact w_c13
  · exact w_c14
  · exact w_c15
  · exact w_c16
  · exact w_c17
  · exact w_c18
  · exact w_c19
  · exact w_c20
  · exact w_c21
set_option maxRecDepth 65536 in
theorem w_t1 : (words1.take 24).all (fun c => isCode c || c.before args0 about1) = true := by decide +kernel
set_option maxRecDepth 65536 in
theorem w_t2 : ((words1.drop 24).take 24).all (fun c => isCode c || c.before args0 about1) = true := by decide +kernel
set_option maxRecDepth 65536 in
theorem w_t3 : (((words1.drop 24).drop 24).take 24).all (fun c => isCode c || c.before args0 about1) = true := by decide +kernel
set_option maxRecDepth 65536 in
theorem w_t4 : ((((words1.drop 24).drop 24).drop 24).take 24).all (fun c => isCode c || c.before args0 about1) = true := by decide +kernel
set_option maxRecDepth 65536 in
theorem w_t5 : (((((words1.drop 24).drop 24).drop 24).drop 24).take 24).all (fun c => isCode c || c.before args0 about1) = true := by decide +kernel
set_option maxRecDepth 65536 in
theorem w_t6 : ((((((words1.drop 24).drop 24).drop 24).drop 24).drop 24).take 24).all (fun c => isCode c || c.before args0 about1) = true := by decide +kernel
set_option maxRecDepth 65536 in
theorem w_t7 : ((((((words1.drop 24).drop 24).drop 24).drop 24).drop 24).drop 24).all (fun c => isCode c || c.before args0 about1) = true := by decide +kernel
theorem w_tables : (allAtoms (Jvm.Cond.code x code maxLocals ret :: tables_1)).before args0 about1 = true := by
  rw [allAtoms_all]
  show words1.all (fun c => c.before args0 about1) = true
  refine all_split ?_ w_codes
  rw [← List.take_append_drop 24 words1, List.all_append, w_t1, ← List.take_append_drop 24 (words1.drop 24), List.all_append, w_t2, ← List.take_append_drop 24 ((words1.drop 24).drop 24), List.all_append, w_t3, ← List.take_append_drop 24 (((words1.drop 24).drop 24).drop 24), List.all_append, w_t4, ← List.take_append_drop 24 ((((words1.drop 24).drop 24).drop 24).drop 24), List.all_append, w_t5, ← List.take_append_drop 24 (((((words1.drop 24).drop 24).drop 24).drop 24).drop 24), List.all_append, w_t6, w_t7]
  rfl
set_option maxRecDepth 65536 in
theorem w_case : (Jvm.Cond.and given_1 narrow_1).before args0 about1 = true := by decide +kernel
theorem w_applies : (headSpec (Jvm.Cond.code x code maxLocals ret :: tables_1) room_1).applies x e0.platform about1 = true :=
  (Spec.applies_iff w_frames).mpr ⟨w_running, w_runnable, w_alone, w_named, w_hears, w_ripe, w_room, w_tables⟩
theorem atStart : AtStart classFile x code maxLocals ret World_1 tables_1 room_1 Calls_1 rest_1 Pre_1 launch0 p0 e0 about1 theMethod args0 below0 :=
  ⟨lists_1, trivial, launch0.admits_env _ _ _, launch0.least_env, fairChoices_fair.cas, fairChoices_fair.clock, w_frames, w_args, w_heap, w_applies, trivial, trivial, w_case⟩
end start1
theorem witness_1 : WitnessClaimed_1 := ⟨start1.p0, start1.e0, start1.about1, start1.theMethod, start1.args0, start1.below0, start1.atStart⟩
end Jvm.Pilot.@@N@@
