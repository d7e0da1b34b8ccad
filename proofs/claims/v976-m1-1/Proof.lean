import JvmDerived
import JvmDerived.Pilot.@@N@@Statement
import JvmDerived.Pilot.@@N@@Code
set_option linter.unusedVariables false
set_option linter.unusedSimpArgs false
namespace Jvm.GoKit
open Sem ClassFile Op Lib Jvm.Stand Jvm.Free Jvm.LawKit Jvm.RoadKit
/-! The walk as a backward predicate over a small abstract machine: refs count the cells made since the law began. -/
abbrev GCell := (String × List (String × String × Value)) ⊕ (FieldType × List Value)
abbrev ob (C : String) (fs : List (String × String × Value)) : GCell := Sum.inl (C, fs)
abbrev ar (t : FieldType) (vs : List Value) : GCell := Sum.inr (t, vs)
def upV (b : Nat) : Value → Value
  | .ref k => .ref (b + k)
  | .int x => .int x
  | .long x => .long x
  | .float x => .float x
  | .double x => .double x
  | .null => .null
  | .retAddr x => .retAddr x
def upS (b : Nat) : Slot → Slot
  | .val v => .val (upV b v)
  | .unset => .unset
  | .second => .second
theorem cat_up (b : Nat) (v : Value) : (upV b v).category = v.category := by cases v <;> rfl
theorem isRef_up (b : Nat) (v : Value) : (upV b v).isRef = v.isRef := by cases v <;> rfl
def CellOk (Z : State) (a0 : Array Value) (b : Nat) (h : Heap) (a : Addr) : GCell → Prop
  | Sum.inl (C, fs) => Exa Z h a C ∧ (∀ f ∈ fs, Fld Z h a C f.1 f.2.1 (upV b f.2.2) ∧ Laid Z a0 C C f.1 f.2.1 ∧ ∃ t, parseFieldDescriptor f.2.1 = some t) ∧ (fs.map (·.1)).Nodup
  | Sum.inr (ty, vs) => ∃ c : Cell, Arr Z h a c ty ∧ c.slots = (vs.map (upV b)).toArray
def Rel (Z : State) (a0 : Array Value) (b : Nat) (H : List GCell) (h : Heap) : Prop :=
  h.size = b + H.length ∧ ∀ (i : Nat) (mc : GCell), H[i]? = some mc → CellOk Z a0 b h (b + i) mc
section Rels
variable {Z : State} {a0 : Array Value} {b : Nat} {H : List GCell} {h h' : Heap} {a a' : Addr} {sl : Nat} {v : Value} {mc : GCell}
theorem CellOk.ext (E : Ext h h') (K : CellOk Z a0 b h a mc) : CellOk Z a0 b h' a mc := by
  rcases mc with ⟨C, fs⟩ | ⟨ty, vs⟩
  · obtain ⟨k1, k2, k3⟩ := K
    exact ⟨k1.ext E, fun f hf => ⟨(k2 f hf).1.ext E, (k2 f hf).2⟩, k3⟩
  · obtain ⟨c, A, e⟩ := K
    exact ⟨c, A.ext E, e⟩
theorem CellOk.other (W : Wr h h' a sl v) (ne : a' ≠ a) (K : CellOk Z a0 b h a' mc) : CellOk Z a0 b h' a' mc := by
  rcases mc with ⟨C, fs⟩ | ⟨ty, vs⟩
  · obtain ⟨k1, k2, k3⟩ := K
    exact ⟨k1.wr W, fun f hf => ⟨(k2 f hf).1.other W (Or.inl ne), (k2 f hf).2⟩, k3⟩
  · obtain ⟨c, A, e⟩ := K
    exact ⟨c, A.other W ne, e⟩
theorem Rel.nil (h : Heap) : Rel Z a0 h.size [] h := ⟨rfl, fun (i : Nat) mc q => by simp at q⟩
theorem Rel.push (RR : Rel Z a0 b H h) (E : Ext h h') (hs : h'.size = h.size + 1) (K : CellOk Z a0 b h' (b + H.length) mc) : Rel Z a0 b (H ++ [mc]) h' := by
  refine ⟨by rw [hs, RR.1]; simp; omega, fun (i : Nat) mc' q => ?_⟩
  rw [List.getElem?_append] at q
  split at q
  · exact (RR.2 i mc' q).ext E
  · rename_i hi
    have e : i = H.length := by
      by_cases e : i - H.length = 0
      · omega
      · rw [List.getElem?_eq_none (by simp; omega)] at q; cases q
    subst e
    simp at q
    exact q ▸ K
theorem Rel.wr (RR : Rel Z a0 b H h) {i : Nat} (W : Wr h h' (b + i) sl v) (K : CellOk Z a0 b h' (b + i) mc) : Rel Z a0 b (H.set i mc) h' := by
  refine ⟨by rw [W.size, RR.1]; simp, fun (j : Nat) mc' q => ?_⟩
  rw [List.getElem?_set] at q
  split at q
  · rename_i e
    subst e
    split at q
    · cases q; exact K
    · cases q
  · rename_i e
    exact (RR.2 j mc' q).other W (fun z => e (Nat.add_left_cancel z).symm)
theorem mem_setF {n d : String} {o : Value} : ∀ (fs : List (String × String × Value)) (j : Nat), (fs.map (·.1)).Nodup → fs[j]? = some (n, d, o) → ∀ f ∈ fs.set j (n, d, v), f = (n, d, v) ∨ (f ∈ fs ∧ f.1 ≠ n)
  | [], _, _, q, _, _ => by simp at q
  | g :: gs, 0, nd, q, f, hf => by
    simp only [List.getElem?_cons_zero, Option.some.injEq] at q
    subst q
    simp only [List.map_cons, List.nodup_cons] at nd
    simp only [List.set_cons_zero, List.mem_cons] at hf
    rcases hf with rfl | hf
    · exact Or.inl rfl
    · refine Or.inr ⟨List.mem_cons_of_mem _ hf, fun e => nd.1 ?_⟩
      exact List.mem_map.mpr ⟨f, hf, e⟩
  | g :: gs, j + 1, nd, q, f, hf => by
    simp only [List.getElem?_cons_succ] at q
    simp only [List.map_cons, List.nodup_cons] at nd
    simp only [List.set_cons_succ, List.mem_cons] at hf
    rcases hf with rfl | hf
    · refine Or.inr ⟨List.mem_cons_self .., fun e => nd.1 ?_⟩
      exact List.mem_map.mpr ⟨_, List.mem_of_getElem? q, e.symm⟩
    · rcases mem_setF gs j nd.2 q f hf with e | ⟨e1, e2⟩
      · exact Or.inl e
      · exact Or.inr ⟨List.mem_cons_of_mem _ e1, e2⟩
theorem map_setF {n d : String} {o : Value} : ∀ (fs : List (String × String × Value)) (j : Nat), fs[j]? = some (n, d, o) → (fs.set j (n, d, v)).map (·.1) = fs.map (·.1)
  | [], _, q => by simp at q
  | g :: gs, 0, q => by
    simp only [List.getElem?_cons_zero, Option.some.injEq] at q
    subst q; rfl
  | g :: gs, j + 1, q => by
    simp only [List.getElem?_cons_succ] at q
    simp only [List.set_cons_succ, List.map_cons, map_setF gs j q]
theorem CellOk.fset {C n d : String} {fs : List (String × String × Value)} {j : Nat} {o : Value} (K : CellOk Z a0 b h a (ob C fs)) (q : fs[j]? = some (n, d, o)) (W : Wr h h' a (Jvm.RoadKit.slotOf Z C n d) (upV b v)) : CellOk Z a0 b h' a (ob C (fs.set j (n, d, v))) := by
  obtain ⟨k1, k2, k3⟩ := K
  have m0 := List.mem_of_getElem? q
  obtain ⟨F, L, t, ht⟩ := k2 _ m0
  refine ⟨k1.wr W, fun f hf => ?_, by rw [map_setF fs j q]; exact k3⟩
  rcases mem_setF fs j k3 q f hf with rfl | ⟨e1, e2⟩
  · exact ⟨F.same W, L, t, ht⟩
  · obtain ⟨F', L', t', ht'⟩ := k2 _ e1
    exact ⟨F'.other W (Or.inr (slot_ne L' L e2 ht' ht)), L', t', ht'⟩
end Rels
theorem ne_oa {H : List GCell} {i j : Nat} {C : String} {fs : List (String × String × Value)} {t : FieldType} {vs : List Value} (h1 : H[i]? = some (ob C fs)) (h2 : H[j]? = some (ar t vs)) : i ≠ j := fun e => by subst e; rw [h1] at h2; cases h2
theorem get_ne {H : List GCell} {i j : Nat} {m m' : GCell} (h : H[j]? = some m) (ne : i ≠ j) : (H.set i m')[j]? = some m := by rw [List.getElem?_set_ne ne]; exact h
theorem get_eq {H : List GCell} {i : Nat} {m m' : GCell} (h : H[i]? = some m) : (H.set i m')[i]? = some m' := by
  have := (List.getElem?_eq_some_iff.mp h).1
  simp [this]
theorem get_app {H H2 : List GCell} {i : Nat} {m : GCell} (h : H[i]? = some m) : (H ++ H2)[i]? = some m := by
  have := (List.getElem?_eq_some_iff.mp h).1
  rw [List.getElem?_append_left this]; exact h
theorem get_last {H : List GCell} {m : GCell} : (H ++ [m])[H.length]? = some m := by simp
theorem set_same {α : Type} {l : List α} {k : Nat} {v : α} (h : l[k]? = some v) : l.set k v = l := by
  apply List.ext_getElem?
  intro j
  rw [List.getElem?_set]
  split
  · rename_i e; subst e
    obtain ⟨h1, h2⟩ := List.getElem?_eq_some_iff.mp h
    rw [if_pos h1, h]
  · rfl
def Dc (bytes : ByteArray) (pc : Nat) (i : Instr) (n nx : Nat) : Prop := decode bytes pc = .ok (i, n) ∧ pc + n = nx
theorem wd {W : List Jvm.Cond} {d : Jvm.Cond} (k : Nat) (h : W[k]? = some d) : d ∈ W := List.mem_of_getElem? h
def QQ (Z : State) (a0 : Array Value) (b : Nat) (Post : Option Value → List GCell → Prop) (v : Option Value) (h : Heap) (LL : List Loc) : Prop :=
  Fr b LL ∧ ∃ v' H', v = Option.map (upV b) v' ∧ Rel Z a0 b H' h ∧ Post v' H'
/-- a method's contract over the abstract machine -/
def Met (l : Launch) (Z : State) (a0 : Array Value) (b : Nat) (y : MethodName) (bytes : ByteArray) (maxL : Nat) (ret : Option FieldType) (rm : Room) (as : List Value) (H : List GCell) (Post : Option Value → List GCell → Prop) : Prop :=
  ∀ h, Rel Z a0 b H h → ∀ ws, MetFree l y (head1 (Jvm.Cond.code y bytes maxL ret :: ws) rm) (fun a U => a = (as.map (upV b)).toArray ∧ Z.Warmed39 U.vm ∧ U.heap = h) (fun _ _ _ _ _ => True)
    (fun _ U o U' => ∃ v LL, o = .returned v ∧ QQ Z a0 b Post v U'.heap LL ∧ FrameEnd U o U' LL rm.cells rm.slots)
/-- where a body is walked -/
def Cx (p : Program) (l : Launch) (e : Env) (R : Room) (s : State) (m : MethodId) (args : Array Value) (below : List Frame) (meth : Method) (c : Code) (Z : State) (a0 : Array Value) (W : List Jvm.Cond) (b : Nat) (y : MethodName) (bytes : ByteArray) (nL : Nat) (ret : Option FieldType) (Post : Option Value → List GCell → Prop) : Prop :=
  p.tables.exec = Jvm.exec ∧ Z.Warmed39 s.vm ∧ s.vm.findClass y.cls = some m.cls ∧ c.code = bytes ∧ c.maxLocals = nL ∧ meth.sig.returnType = ret ∧ meth.locks = false ∧ meth.name = y.name ∧ (∀ d ∈ W, d.before a0 Z = true)
section Walk
variable {p : Program} {l : Launch} {e : Env} {R : Room} {s : State} {m : MethodId} {args : Array Value} {below : List Frame} {meth : Method} {c : Code} {Z : State} {a0 : Array Value} {W : List Jvm.Cond} {b : Nat} {y : MethodName} {bytes : ByteArray} {nL : Nat} {ret : Option FieldType} {Post : Option Value → List GCell → Prop}
theorem Cx.exec (C : Cx p l e R s m args below meth c Z a0 W b y bytes nL ret Post) : p.tables.exec = Jvm.exec := C.1
theorem Cx.warm (C : Cx p l e R s m args below meth c Z a0 W b y bytes nL ret Post) : Z.Warmed39 s.vm := C.2.1
theorem Cx.own (C : Cx p l e R s m args below meth c Z a0 W b y bytes nL ret Post) : s.vm.findClass y.cls = some m.cls := C.2.2.1
theorem Cx.bys (C : Cx p l e R s m args below meth c Z a0 W b y bytes nL ret Post) : c.code = bytes := C.2.2.2.1
theorem Cx.ml (C : Cx p l e R s m args below meth c Z a0 W b y bytes nL ret Post) : c.maxLocals = nL := C.2.2.2.2.1
theorem Cx.rets (C : Cx p l e R s m args below meth c Z a0 W b y bytes nL ret Post) : meth.sig.returnType = ret := C.2.2.2.2.2.1
theorem Cx.nolock (C : Cx p l e R s m args below meth c Z a0 W b y bytes nL ret Post) : meth.locks = false := C.2.2.2.2.2.2.1
theorem Cx.named (C : Cx p l e R s m args below meth c Z a0 W b y bytes nL ret Post) : meth.name = y.name := C.2.2.2.2.2.2.2.1
theorem Cx.hw (C : Cx p l e R s m args below meth c Z a0 W b y bytes nL ret Post) : ∀ d ∈ W, d.before a0 Z = true := C.2.2.2.2.2.2.2.2
abbrev frm (b : Nat) (m : MethodId) (pc : Nat) (L : List Slot) (S : List Value) : JFrame := mkF m pc (L.map (upS b)).toArray (S.map (upV b))
def Ends (p : Program) (e : Env) (s : State) (R : Room) (b : Nat) (Z : State) (a0 : Array Value) (Post : Option Value → List GCell → Prop) (below : List Frame) (A : State) : Prop :=
  ∃ s₂ o, Steps p.tables e below A s₂ ∧ s₂.status = .running ∧ Ended s₂ below o ∧ ∃ v LL, o = .returned v ∧ QQ Z a0 b Post v s₂.heap LL ∧ FrameEnd s o s₂ LL R.cells R.slots
/-- from here the body returns, and Post holds of what it returns and of the heap -/
def Go (C : Cx p l e R s m args below meth c Z a0 W b y bytes nL ret Post) (pc : Nat) (L : List Slot) (S : List Value) (H : List GCell) (cells slots : Nat) : Prop :=
  ∀ T locs, Stand p l e R s m args below meth c T locs cells slots → Fr b locs → Rel Z a0 b H T.heap → Ends p e s R b Z a0 Post below (T.setTop (frm b m pc L S))
variable {C : Cx p l e R s m args below meth c Z a0 W b y bytes nL ret Post} {pc nx tg : Nat} {L L' : List Slot} {S S' : List Value} {H H' : List GCell} {cells slots : Nat}
theorem Ends.back {A B : State} (st : ∀ t, Steps p.tables e below B t → Steps p.tables e below A t) (h : Ends p e s R b Z a0 Post below B) : Ends p e s R b Z a0 Post below A := by
  obtain ⟨s₂, o, hs, hr⟩ := h
  exact ⟨s₂, o, st _ hs, hr⟩
theorem Go.more {cells' slots' : Nat} (h : Go C pc L S H cells' slots') (hc : cells ≤ cells') (hs : slots ≤ slots') : Go C pc L S H cells slots :=
  fun T locs X N RR => h T locs (X.more hc hs) N RR
theorem go_pure (st : ∀ (T : State) locs cells slots, Stand p l e R s m args below meth c T locs cells slots → ∀ t, Steps p.tables e below (T.setTop (frm b m nx L' S')) t → Steps p.tables e below (T.setTop (frm b m pc L S)) t) (h : Go C nx L' S' H cells slots) : Go C pc L S H cells slots :=
  fun T locs X N RR => (h T locs X N RR).back (st T locs _ _ X)
/-- a boolean reckoned by branches: the ways come together at pc' -/
theorem go_cut {pc' : Nat} {P : Int32 → Prop} (h1 : (∀ mb, P mb → Go C pc' L (.int mb :: S) H cells slots) → Go C pc L S H cells slots) (h2 : ∀ mb, P mb → Go C pc' L (.int mb :: S) H cells slots) : Go C pc L S H cells slots := h1 h2
theorem getL {k : Nat} {o : Slot} (h : L[k]? = some o) : (L.map (upS b)).toArray[k]? = some (upS b o) := by simp [h]
theorem go_iload {k : Nat} {x : Int32} (hd : Dc bytes pc (.iload k) 2 nx) (hl : L[k]? = some (.val (.int x))) (h : Go C nx L (.int x :: S) H cells slots) : Go C pc L S H cells slots :=
  go_pure (fun T _ _ _ X t k => by obtain ⟨hd, rfl⟩ := hd; exact XS.iload X.here C.exec rfl (hb C.bys hd) (getL hl) k) h
theorem go_iloadN {k : Fin 4} {x : Int32} (hd : Dc bytes pc (.iload_n k) 1 nx) (hl : L[k.val]? = some (.val (.int x))) (h : Go C nx L (.int x :: S) H cells slots) : Go C pc L S H cells slots :=
  go_pure (fun T _ _ _ X t k => by obtain ⟨hd, rfl⟩ := hd; exact XS.iloadN X.here C.exec rfl (hb C.bys hd) (getL hl) k) h
theorem go_lload {k : Nat} {x : Int64} (hd : Dc bytes pc (.lload k) 2 nx) (hl : L[k]? = some (.val (.long x))) (h : Go C nx L (.long x :: S) H cells slots) : Go C pc L S H cells slots :=
  go_pure (fun T _ _ _ X t k => by obtain ⟨hd, rfl⟩ := hd; exact XT.lload X.here C.exec rfl (hb C.bys hd) (getL hl) k) h
theorem go_lloadN {k : Fin 4} {x : Int64} (hd : Dc bytes pc (.lload_n k) 1 nx) (hl : L[k.val]? = some (.val (.long x))) (h : Go C nx L (.long x :: S) H cells slots) : Go C pc L S H cells slots :=
  go_pure (fun T _ _ _ X t k => by obtain ⟨hd, rfl⟩ := hd; exact XT.lloadN X.here C.exec rfl (hb C.bys hd) (getL hl) k) h
theorem go_aload {k : Nat} {x : Value} (hd : Dc bytes pc (.aload k) 2 nx) (hl : L[k]? = some (.val x)) (hr : x.isRef = true) (h : Go C nx L (x :: S) H cells slots) : Go C pc L S H cells slots :=
  go_pure (fun T _ _ _ X t k => by obtain ⟨hd, rfl⟩ := hd; exact XS.aload X.here C.exec rfl (hb C.bys hd) (getL hl) ((isRef_up b x).trans hr) k) h
theorem go_aloadN {k : Fin 4} {x : Value} (hd : Dc bytes pc (.aload_n k) 1 nx) (hl : L[k.val]? = some (.val x)) (hr : x.isRef = true) (h : Go C nx L (x :: S) H cells slots) : Go C pc L S H cells slots :=
  go_pure (fun T _ _ _ X t k => by obtain ⟨hd, rfl⟩ := hd; exact XS.aloadN X.here C.exec rfl (hb C.bys hd) (getL hl) ((isRef_up b x).trans hr) k) h
theorem go_iconst {i : Int} {x : Int32} (hd : Dc bytes pc (.iconst i) 1 nx) (hv : Int32.ofInt i = x) (h : Go C nx L (.int x :: S) H cells slots) : Go C pc L S H cells slots :=
  go_pure (fun T _ _ _ X t k => by obtain ⟨hd, rfl⟩ := hd; subst hv; exact XS.iconst X.here C.exec rfl (hb C.bys hd) k) h
theorem go_bipush {i : Int} {x : Int32} (hd : Dc bytes pc (.bipush i) 2 nx) (hv : (Int8.ofInt i).toInt32 = x) (h : Go C nx L (.int x :: S) H cells slots) : Go C pc L S H cells slots :=
  go_pure (fun T _ _ _ X t k => by obtain ⟨hd, rfl⟩ := hd; subst hv; exact XS.bipush X.here C.exec rfl (hb C.bys hd) k) h
theorem go_sipush {i : Int} {x : Int32} (hd : Dc bytes pc (.sipush i) 3 nx) (hv : (Int16.ofInt i).toInt32 = x) (h : Go C nx L (.int x :: S) H cells slots) : Go C pc L S H cells slots :=
  go_pure (fun T _ _ _ X t k => by obtain ⟨hd, rfl⟩ := hd; subst hv; exact XS.sipush X.here C.exec rfl (hb C.bys hd) k) h
theorem go_lconst {i : Fin 2} {x : Int64} (hd : Dc bytes pc (.lconst i) 1 nx) (hv : Int64.ofNat i = x) (h : Go C nx L (.long x :: S) H cells slots) : Go C pc L S H cells slots :=
  go_pure (fun T _ _ _ X t k => by obtain ⟨hd, rfl⟩ := hd; subst hv; exact XT.lconst X.here C.exec rfl (hb C.bys hd) k) h
theorem go_null (hd : Dc bytes pc .aconst_null 1 nx) (h : Go C nx L (.null :: S) H cells slots) : Go C pc L S H cells slots :=
  go_pure (fun T _ _ _ X t k => by obtain ⟨hd, rfl⟩ := hd; exact XS.aconstNull X.here C.exec rfl (hb C.bys hd) k) h
theorem go_ldc {i : Nat} {x : Int32} (hd : Dc bytes pc (.ldc i) 2 nx) (w : Jvm.Cond.constant y.cls i x ∈ W) (h : Go C nx L (.int x :: S) H cells slots) : Go C pc L S H cells slots :=
  go_pure (fun T _ _ _ X t k => by obtain ⟨hd, rfl⟩ := hd; exact X.ldcInt C.exec C.own (mvT C.warm (C.hw _ w)) (g := frm b m pc L S) rfl (hb C.bys hd) _ k) h
theorem go_ldc2 {i : Nat} {x : Int64} (hd : Dc bytes pc (.ldc2_w i) 3 nx) (w : Jvm.Cond.constantLong y.cls i x ∈ W) (h : Go C nx L (.long x :: S) H cells slots) : Go C pc L S H cells slots :=
  go_pure (fun T _ _ _ X t k => by obtain ⟨hd, rfl⟩ := hd; exact X.ldc2Long C.exec C.own (mvT C.warm (C.hw _ w)) (g := frm b m pc L S) rfl (hb C.bys hd) _ k) h
theorem go_iadd {x : Int32} {z : Int32} (hd : Dc bytes pc .iadd 1 nx) (h : Go C nx L (.int (x + z) :: S) H cells slots) : Go C pc L (.int z :: .int x :: S) H cells slots :=
  go_pure (fun T _ _ _ X t k => by obtain ⟨hd, rfl⟩ := hd; exact XS.iadd X.here C.exec rfl (hb C.bys hd) rfl k) h
theorem go_ladd {x : Int64} {z : Int64} (hd : Dc bytes pc .ladd 1 nx) (h : Go C nx L (.long (x + z) :: S) H cells slots) : Go C pc L (.long z :: .long x :: S) H cells slots :=
  go_pure (fun T _ _ _ X t k => by obtain ⟨hd, rfl⟩ := hd; exact XT.ladd X.here C.exec rfl (hb C.bys hd) rfl k) h
theorem go_isub {x : Int32} {z : Int32} (hd : Dc bytes pc .isub 1 nx) (h : Go C nx L (.int (x - z) :: S) H cells slots) : Go C pc L (.int z :: .int x :: S) H cells slots :=
  go_pure (fun T _ _ _ X t k => by obtain ⟨hd, rfl⟩ := hd; exact XS.isub X.here C.exec rfl (hb C.bys hd) rfl k) h
theorem go_lsub {x : Int64} {z : Int64} (hd : Dc bytes pc .lsub 1 nx) (h : Go C nx L (.long (x - z) :: S) H cells slots) : Go C pc L (.long z :: .long x :: S) H cells slots :=
  go_pure (fun T _ _ _ X t k => by obtain ⟨hd, rfl⟩ := hd; exact XT.lsub X.here C.exec rfl (hb C.bys hd) rfl k) h
theorem go_imul {x : Int32} {z : Int32} (hd : Dc bytes pc .imul 1 nx) (h : Go C nx L (.int (x * z) :: S) H cells slots) : Go C pc L (.int z :: .int x :: S) H cells slots :=
  go_pure (fun T _ _ _ X t k => by obtain ⟨hd, rfl⟩ := hd; exact XS.imul X.here C.exec rfl (hb C.bys hd) rfl k) h
theorem go_lmul {x : Int64} {z : Int64} (hd : Dc bytes pc .lmul 1 nx) (h : Go C nx L (.long (x * z) :: S) H cells slots) : Go C pc L (.long z :: .long x :: S) H cells slots :=
  go_pure (fun T _ _ _ X t k => by obtain ⟨hd, rfl⟩ := hd; exact XT.lmul X.here C.exec rfl (hb C.bys hd) rfl k) h
theorem go_iand {x : Int32} {z : Int32} (hd : Dc bytes pc .iand 1 nx) (h : Go C nx L (.int (x &&& z) :: S) H cells slots) : Go C pc L (.int z :: .int x :: S) H cells slots :=
  go_pure (fun T _ _ _ X t k => by obtain ⟨hd, rfl⟩ := hd; exact XS.iand X.here C.exec rfl (hb C.bys hd) rfl k) h
theorem go_land {x : Int64} {z : Int64} (hd : Dc bytes pc .land 1 nx) (h : Go C nx L (.long (x &&& z) :: S) H cells slots) : Go C pc L (.long z :: .long x :: S) H cells slots :=
  go_pure (fun T _ _ _ X t k => by obtain ⟨hd, rfl⟩ := hd; exact XT.land X.here C.exec rfl (hb C.bys hd) rfl k) h
theorem go_ior {x : Int32} {z : Int32} (hd : Dc bytes pc .ior 1 nx) (h : Go C nx L (.int (x ||| z) :: S) H cells slots) : Go C pc L (.int z :: .int x :: S) H cells slots :=
  go_pure (fun T _ _ _ X t k => by obtain ⟨hd, rfl⟩ := hd; exact XT.ior X.here C.exec rfl (hb C.bys hd) rfl k) h
theorem go_lor {x : Int64} {z : Int64} (hd : Dc bytes pc .lor 1 nx) (h : Go C nx L (.long (x ||| z) :: S) H cells slots) : Go C pc L (.long z :: .long x :: S) H cells slots :=
  go_pure (fun T _ _ _ X t k => by obtain ⟨hd, rfl⟩ := hd; exact XT.lor X.here C.exec rfl (hb C.bys hd) rfl k) h
theorem go_ixor {x : Int32} {z : Int32} (hd : Dc bytes pc .ixor 1 nx) (h : Go C nx L (.int (x ^^^ z) :: S) H cells slots) : Go C pc L (.int z :: .int x :: S) H cells slots :=
  go_pure (fun T _ _ _ X t k => by obtain ⟨hd, rfl⟩ := hd; exact XT.ixor X.here C.exec rfl (hb C.bys hd) rfl k) h
theorem go_lxor {x : Int64} {z : Int64} (hd : Dc bytes pc .lxor 1 nx) (h : Go C nx L (.long (x ^^^ z) :: S) H cells slots) : Go C pc L (.long z :: .long x :: S) H cells slots :=
  go_pure (fun T _ _ _ X t k => by obtain ⟨hd, rfl⟩ := hd; exact XT.lxor X.here C.exec rfl (hb C.bys hd) rfl k) h
theorem go_ishl {x : Int32} {z : Int32} (hd : Dc bytes pc .ishl 1 nx) (h : Go C nx L (.int (x <<< (z &&& 31)) :: S) H cells slots) : Go C pc L (.int z :: .int x :: S) H cells slots :=
  go_pure (fun T _ _ _ X t k => by obtain ⟨hd, rfl⟩ := hd; exact XT.ishl X.here C.exec rfl (hb C.bys hd) rfl k) h
theorem go_ishr {x : Int32} {z : Int32} (hd : Dc bytes pc .ishr 1 nx) (h : Go C nx L (.int (x >>> (z &&& 31)) :: S) H cells slots) : Go C pc L (.int z :: .int x :: S) H cells slots :=
  go_pure (fun T _ _ _ X t k => by obtain ⟨hd, rfl⟩ := hd; exact XT.ishr X.here C.exec rfl (hb C.bys hd) rfl k) h
theorem go_iushr {x : Int32} {z : Int32} (hd : Dc bytes pc .iushr 1 nx) (h : Go C nx L (.int (XT.ushr x z) :: S) H cells slots) : Go C pc L (.int z :: .int x :: S) H cells slots :=
  go_pure (fun T _ _ _ X t k => by obtain ⟨hd, rfl⟩ := hd; exact XT.iushr X.here C.exec rfl (hb C.bys hd) rfl k) h
theorem go_lshl {x : Int64} {z : Int32} (hd : Dc bytes pc .lshl 1 nx) (h : Go C nx L (.long (x <<< (z.toInt64 &&& 63)) :: S) H cells slots) : Go C pc L (.int z :: .long x :: S) H cells slots :=
  go_pure (fun T _ _ _ X t k => by obtain ⟨hd, rfl⟩ := hd; exact XT.lshl X.here C.exec rfl (hb C.bys hd) rfl k) h
theorem go_lshr {x : Int64} {z : Int32} (hd : Dc bytes pc .lshr 1 nx) (h : Go C nx L (.long (x >>> (z.toInt64 &&& 63)) :: S) H cells slots) : Go C pc L (.int z :: .long x :: S) H cells slots :=
  go_pure (fun T _ _ _ X t k => by obtain ⟨hd, rfl⟩ := hd; exact XT.lshr X.here C.exec rfl (hb C.bys hd) rfl k) h
theorem go_lushr {x : Int64} {z : Int32} (hd : Dc bytes pc .lushr 1 nx) (h : Go C nx L (.long (XT.ushrL x z) :: S) H cells slots) : Go C pc L (.int z :: .long x :: S) H cells slots :=
  go_pure (fun T _ _ _ X t k => by obtain ⟨hd, rfl⟩ := hd; exact XT.lushr X.here C.exec rfl (hb C.bys hd) rfl k) h
theorem go_ineg {x : Int32} (hd : Dc bytes pc .ineg 1 nx) (h : Go C nx L (.int (-x) :: S) H cells slots) : Go C pc L (.int x :: S) H cells slots :=
  go_pure (fun T _ _ _ X t k => by obtain ⟨hd, rfl⟩ := hd; exact XS.ineg X.here C.exec rfl (hb C.bys hd) rfl k) h
theorem go_lneg {x : Int64} (hd : Dc bytes pc .lneg 1 nx) (h : Go C nx L (.long (-x) :: S) H cells slots) : Go C pc L (.long x :: S) H cells slots :=
  go_pure (fun T _ _ _ X t k => by obtain ⟨hd, rfl⟩ := hd; exact XT.lneg X.here C.exec rfl (hb C.bys hd) rfl k) h
theorem go_i2l {x : Int32} (hd : Dc bytes pc .i2l 1 nx) (h : Go C nx L (.long (x.toInt64) :: S) H cells slots) : Go C pc L (.int x :: S) H cells slots :=
  go_pure (fun T _ _ _ X t k => by obtain ⟨hd, rfl⟩ := hd; exact XT.i2l X.here C.exec rfl (hb C.bys hd) rfl k) h
theorem go_l2i {x : Int64} (hd : Dc bytes pc .l2i 1 nx) (h : Go C nx L (.int (x.toInt32) :: S) H cells slots) : Go C pc L (.long x :: S) H cells slots :=
  go_pure (fun T _ _ _ X t k => by obtain ⟨hd, rfl⟩ := hd; exact XT.l2i X.here C.exec rfl (hb C.bys hd) rfl k) h
theorem go_i2b {x : Int32} (hd : Dc bytes pc .i2b 1 nx) (h : Go C nx L (.int (x.toInt8.toInt32) :: S) H cells slots) : Go C pc L (.int x :: S) H cells slots :=
  go_pure (fun T _ _ _ X t k => by obtain ⟨hd, rfl⟩ := hd; exact XT.i2b X.here C.exec rfl (hb C.bys hd) rfl k) h
theorem go_i2c {x : Int32} (hd : Dc bytes pc .i2c 1 nx) (h : Go C nx L (.int (x.toUInt32.toUInt16.toUInt32.toInt32) :: S) H cells slots) : Go C pc L (.int x :: S) H cells slots :=
  go_pure (fun T _ _ _ X t k => by obtain ⟨hd, rfl⟩ := hd; exact XT.i2c X.here C.exec rfl (hb C.bys hd) rfl k) h
theorem go_i2s {x : Int32} (hd : Dc bytes pc .i2s 1 nx) (h : Go C nx L (.int (x.toInt16.toInt32) :: S) H cells slots) : Go C pc L (.int x :: S) H cells slots :=
  go_pure (fun T _ _ _ X t k => by obtain ⟨hd, rfl⟩ := hd; exact XT.i2s X.here C.exec rfl (hb C.bys hd) rfl k) h
theorem go_idiv {x z : Int32} (hd : Dc bytes pc .idiv 1 nx) (hz : z ≠ 0) (h : Go C nx L (.int (x / z) :: S) H cells slots) : Go C pc L (.int z :: .int x :: S) H cells slots :=
  go_pure (fun T _ _ _ X t k => by obtain ⟨hd, rfl⟩ := hd; exact XS.idiv X.here C.exec rfl (hb C.bys hd) rfl hz k) h
theorem go_irem {x z : Int32} (hd : Dc bytes pc .irem 1 nx) (hz : z ≠ 0) (h : Go C nx L (.int (x % z) :: S) H cells slots) : Go C pc L (.int z :: .int x :: S) H cells slots :=
  go_pure (fun T _ _ _ X t k => by obtain ⟨hd, rfl⟩ := hd; exact iremM X C.exec rfl (hb C.bys hd) rfl hz k) h
theorem go_dup {v : Value} (hd : Dc bytes pc .dup 1 nx) (hc : v.category = 1) (h : Go C nx L (v :: v :: S) H cells slots) : Go C pc L (v :: S) H cells slots :=
  go_pure (fun T _ _ _ X t k => by obtain ⟨hd, rfl⟩ := hd; exact XS.dup X.here C.exec rfl (hb C.bys hd) rfl ((cat_up b v).trans hc) k) h
theorem go_dupX1 {v w : Value} (hd : Dc bytes pc .dup_x1 1 nx) (hc : v.category = 1) (hc' : w.category = 1) (h : Go C nx L (v :: w :: v :: S) H cells slots) : Go C pc L (v :: w :: S) H cells slots :=
  go_pure (fun T _ _ _ X t k => by obtain ⟨hd, rfl⟩ := hd; exact XT.dupX1 X.here C.exec rfl (hb C.bys hd) rfl ((cat_up b v).trans hc) ((cat_up b w).trans hc') k) h
theorem go_dup2 {v w : Value} (hd : Dc bytes pc .dup2 1 nx) (hc : v.category = 1) (hc' : w.category = 1) (h : Go C nx L (v :: w :: v :: w :: S) H cells slots) : Go C pc L (v :: w :: S) H cells slots :=
  go_pure (fun T _ _ _ X t k => by obtain ⟨hd, rfl⟩ := hd; exact XT.dup2 X.here C.exec rfl (hb C.bys hd) rfl ((cat_up b v).trans hc) ((cat_up b w).trans hc') k) h
theorem go_dup2L {x : Int64} (hd : Dc bytes pc .dup2 1 nx) (h : Go C nx L (.long x :: .long x :: S) H cells slots) : Go C pc L (.long x :: S) H cells slots :=
  go_pure (fun T _ _ _ X t k => by obtain ⟨hd, rfl⟩ := hd; exact XT.dup2L X.here C.exec rfl (hb C.bys hd) rfl k) h
theorem go_pop {v : Value} (hd : Dc bytes pc .pop 1 nx) (hc : v.category = 1) (h : Go C nx L S H cells slots) : Go C pc L (v :: S) H cells slots :=
  go_pure (fun T _ _ _ X t k => by obtain ⟨hd, rfl⟩ := hd; exact XT.pop X.here C.exec rfl (hb C.bys hd) rfl ((cat_up b v).trans hc) k) h
theorem go_goto {o : Int} (hd : Dc bytes pc (.goto o) 3 nx) (ht : (pc : Int) + o = (tg : Nat)) (h : Go C tg L S H cells slots) : Go C pc L S H cells slots :=
  go_pure (fun T _ _ _ X t k => XS.goto X.here C.exec rfl (pc0 := pc) (pc' := tg) rfl (hb C.bys hd.1) (by omega) (by omega) k) h
theorem go_icmp {cd : ClassFile.Cond} {o : Int} {x z : Int32} (hd : Dc bytes pc (.if_icmp cd o) 3 nx) (ht : (pc : Int) + o = (tg : Nat)) (h1 : if_icmp.holds cd x z = true → Go C tg L S H cells slots) (h2 : if_icmp.holds cd x z = false → Go C nx L S H cells slots) : Go C pc L (.int z :: .int x :: S) H cells slots := by
  cases q : if_icmp.holds cd x z
  · exact go_pure (fun T _ _ _ X t k => by obtain ⟨hd, rfl⟩ := hd; exact XS.icmpNo X.here C.exec rfl (hb C.bys hd) rfl q k) (h2 q)
  · exact go_pure (fun T _ _ _ X t k => XS.icmpYes X.here C.exec rfl (pc0 := pc) (pc' := tg) rfl (hb C.bys hd.1) rfl q (by omega) (by omega) k) (h1 q)
theorem go_if {cd : ClassFile.Cond} {o : Int} {x : Int32} (hd : Dc bytes pc (.ifCond cd o) 3 nx) (ht : (pc : Int) + o = (tg : Nat)) (h1 : if_icmp.holds cd x 0 = true → Go C tg L S H cells slots) (h2 : if_icmp.holds cd x 0 = false → Go C nx L S H cells slots) : Go C pc L (.int x :: S) H cells slots := by
  cases q : if_icmp.holds cd x 0
  · exact go_pure (fun T _ _ _ X t k => by obtain ⟨hd, rfl⟩ := hd; exact XS.ifNo X.here C.exec rfl (hb C.bys hd) rfl ((if0 _ _).trans q) k) (h2 q)
  · exact go_pure (fun T _ _ _ X t k => XS.ifYes X.here C.exec rfl (pc0 := pc) (pc' := tg) rfl (hb C.bys hd.1) rfl ((if0 _ _).trans q) (by omega) (by omega) k) (h1 q)
theorem h_eq {x z : Int32} {B : Bool} (q : if_icmp.holds .eq x z = B) : B = true ↔ x = z := by subst q; simp [if_icmp.holds]
theorem h_ne {x z : Int32} {B : Bool} (q : if_icmp.holds .ne x z = B) : B = true ↔ ¬ x = z := by subst q; simp [if_icmp.holds]
theorem h_lt {x z : Int32} {B : Bool} (q : if_icmp.holds .lt x z = B) : B = true ↔ x.toInt < z.toInt := by subst q; simp [if_icmp.holds, Int32.lt_iff_toInt_lt]
theorem h_ge {x z : Int32} {B : Bool} (q : if_icmp.holds .ge x z = B) : B = true ↔ z.toInt ≤ x.toInt := by subst q; simp [if_icmp.holds, Int32.le_iff_toInt_le]
theorem h_gt {x z : Int32} {B : Bool} (q : if_icmp.holds .gt x z = B) : B = true ↔ z.toInt < x.toInt := by subst q; simp [if_icmp.holds, Int32.lt_iff_toInt_lt]
theorem h_le {x z : Int32} {B : Bool} (q : if_icmp.holds .le x z = B) : B = true ↔ x.toInt ≤ z.toInt := by subst q; simp [if_icmp.holds, Int32.le_iff_toInt_le]
theorem go_iceq {o : Int} {x z : Int32} (hd : Dc bytes pc (.if_icmp .eq o) 3 nx) (ht : (pc : Int) + o = (tg : Nat)) (h1 : x = z → Go C tg L S H cells slots) (h2 : ¬ x = z → Go C nx L S H cells slots) : Go C pc L (.int z :: .int x :: S) H cells slots :=
  go_icmp hd ht (fun q => h1 ((h_eq q).mp rfl)) (fun q => h2 (fun r => Bool.noConfusion ((h_eq q).mpr r)))
theorem go_iceqY {o : Int} {x z : Int32} (hd : Dc bytes pc (.if_icmp .eq o) 3 nx) (ht : (pc : Int) + o = (tg : Nat)) (hc : x = z) (h : Go C tg L S H cells slots) : Go C pc L (.int z :: .int x :: S) H cells slots :=
  go_iceq hd ht (fun _ => h) (fun q => absurd hc (by first | exact q | exact not_not_intro q | omega))
theorem go_iceqN {o : Int} {x z : Int32} (hd : Dc bytes pc (.if_icmp .eq o) 3 nx) (ht : (pc : Int) + o = (tg : Nat)) (hc : ¬ x = z) (h : Go C nx L S H cells slots) : Go C pc L (.int z :: .int x :: S) H cells slots :=
  go_iceq hd ht (fun q => absurd hc (by first | exact q | exact not_not_intro q | omega)) (fun _ => h)
theorem go_ifeq {o : Int} {x : Int32} (hd : Dc bytes pc (.ifCond .eq o) 3 nx) (ht : (pc : Int) + o = (tg : Nat)) (h1 : x = 0 → Go C tg L S H cells slots) (h2 : ¬ x = 0 → Go C nx L S H cells slots) : Go C pc L (.int x :: S) H cells slots :=
  go_if hd ht (fun q => h1 ((h_eq q).mp rfl)) (fun q => h2 (fun r => Bool.noConfusion ((h_eq q).mpr r)))
theorem go_ifeqY {o : Int} {x : Int32} (hd : Dc bytes pc (.ifCond .eq o) 3 nx) (ht : (pc : Int) + o = (tg : Nat)) (hc : x = 0) (h : Go C tg L S H cells slots) : Go C pc L (.int x :: S) H cells slots :=
  go_ifeq hd ht (fun _ => h) (fun q => absurd hc (by first | exact q | exact not_not_intro q | omega))
theorem go_ifeqN {o : Int} {x : Int32} (hd : Dc bytes pc (.ifCond .eq o) 3 nx) (ht : (pc : Int) + o = (tg : Nat)) (hc : ¬ x = 0) (h : Go C nx L S H cells slots) : Go C pc L (.int x :: S) H cells slots :=
  go_ifeq hd ht (fun q => absurd hc (by first | exact q | exact not_not_intro q | omega)) (fun _ => h)
theorem go_icne {o : Int} {x z : Int32} (hd : Dc bytes pc (.if_icmp .ne o) 3 nx) (ht : (pc : Int) + o = (tg : Nat)) (h1 : ¬ x = z → Go C tg L S H cells slots) (h2 : x = z → Go C nx L S H cells slots) : Go C pc L (.int z :: .int x :: S) H cells slots :=
  go_icmp hd ht (fun q => h1 ((h_ne q).mp rfl)) (fun q => h2 (Decidable.not_not.mp fun r => Bool.noConfusion ((h_ne q).mpr r)))
theorem go_icneY {o : Int} {x z : Int32} (hd : Dc bytes pc (.if_icmp .ne o) 3 nx) (ht : (pc : Int) + o = (tg : Nat)) (hc : ¬ x = z) (h : Go C tg L S H cells slots) : Go C pc L (.int z :: .int x :: S) H cells slots :=
  go_icne hd ht (fun _ => h) (fun q => absurd hc (by first | exact q | exact not_not_intro q | omega))
theorem go_icneN {o : Int} {x z : Int32} (hd : Dc bytes pc (.if_icmp .ne o) 3 nx) (ht : (pc : Int) + o = (tg : Nat)) (hc : x = z) (h : Go C nx L S H cells slots) : Go C pc L (.int z :: .int x :: S) H cells slots :=
  go_icne hd ht (fun q => absurd hc (by first | exact q | exact not_not_intro q | omega)) (fun _ => h)
theorem go_ifne {o : Int} {x : Int32} (hd : Dc bytes pc (.ifCond .ne o) 3 nx) (ht : (pc : Int) + o = (tg : Nat)) (h1 : ¬ x = 0 → Go C tg L S H cells slots) (h2 : x = 0 → Go C nx L S H cells slots) : Go C pc L (.int x :: S) H cells slots :=
  go_if hd ht (fun q => h1 ((h_ne q).mp rfl)) (fun q => h2 (Decidable.not_not.mp fun r => Bool.noConfusion ((h_ne q).mpr r)))
theorem go_ifneY {o : Int} {x : Int32} (hd : Dc bytes pc (.ifCond .ne o) 3 nx) (ht : (pc : Int) + o = (tg : Nat)) (hc : ¬ x = 0) (h : Go C tg L S H cells slots) : Go C pc L (.int x :: S) H cells slots :=
  go_ifne hd ht (fun _ => h) (fun q => absurd hc (by first | exact q | exact not_not_intro q | omega))
theorem go_ifneN {o : Int} {x : Int32} (hd : Dc bytes pc (.ifCond .ne o) 3 nx) (ht : (pc : Int) + o = (tg : Nat)) (hc : x = 0) (h : Go C nx L S H cells slots) : Go C pc L (.int x :: S) H cells slots :=
  go_ifne hd ht (fun q => absurd hc (by first | exact q | exact not_not_intro q | omega)) (fun _ => h)
theorem go_iclt {o : Int} {x z : Int32} (hd : Dc bytes pc (.if_icmp .lt o) 3 nx) (ht : (pc : Int) + o = (tg : Nat)) (h1 : x.toInt < z.toInt → Go C tg L S H cells slots) (h2 : z.toInt ≤ x.toInt → Go C nx L S H cells slots) : Go C pc L (.int z :: .int x :: S) H cells slots :=
  go_icmp hd ht (fun q => h1 ((h_lt q).mp rfl)) (fun q => h2 ((by have := mt (h_lt q).mpr (by simp); omega)))
theorem go_icltY {o : Int} {x z : Int32} (hd : Dc bytes pc (.if_icmp .lt o) 3 nx) (ht : (pc : Int) + o = (tg : Nat)) (hc : x.toInt < z.toInt) (h : Go C tg L S H cells slots) : Go C pc L (.int z :: .int x :: S) H cells slots :=
  go_iclt hd ht (fun _ => h) (fun q => absurd hc (by first | exact q | exact not_not_intro q | omega))
theorem go_icltN {o : Int} {x z : Int32} (hd : Dc bytes pc (.if_icmp .lt o) 3 nx) (ht : (pc : Int) + o = (tg : Nat)) (hc : z.toInt ≤ x.toInt) (h : Go C nx L S H cells slots) : Go C pc L (.int z :: .int x :: S) H cells slots :=
  go_iclt hd ht (fun q => absurd hc (by first | exact q | exact not_not_intro q | omega)) (fun _ => h)
theorem go_iflt {o : Int} {x : Int32} (hd : Dc bytes pc (.ifCond .lt o) 3 nx) (ht : (pc : Int) + o = (tg : Nat)) (h1 : x.toInt < 0 → Go C tg L S H cells slots) (h2 : 0 ≤ x.toInt → Go C nx L S H cells slots) : Go C pc L (.int x :: S) H cells slots :=
  go_if hd ht (fun q => h1 ((by have := (h_lt q).mp rfl; simpa using this))) (fun q => h2 ((by have := mt (h_lt q).mpr (by simp); simpa using this)))
theorem go_ifltY {o : Int} {x : Int32} (hd : Dc bytes pc (.ifCond .lt o) 3 nx) (ht : (pc : Int) + o = (tg : Nat)) (hc : x.toInt < 0) (h : Go C tg L S H cells slots) : Go C pc L (.int x :: S) H cells slots :=
  go_iflt hd ht (fun _ => h) (fun q => absurd hc (by first | exact q | exact not_not_intro q | omega))
theorem go_ifltN {o : Int} {x : Int32} (hd : Dc bytes pc (.ifCond .lt o) 3 nx) (ht : (pc : Int) + o = (tg : Nat)) (hc : 0 ≤ x.toInt) (h : Go C nx L S H cells slots) : Go C pc L (.int x :: S) H cells slots :=
  go_iflt hd ht (fun q => absurd hc (by first | exact q | exact not_not_intro q | omega)) (fun _ => h)
theorem go_icge {o : Int} {x z : Int32} (hd : Dc bytes pc (.if_icmp .ge o) 3 nx) (ht : (pc : Int) + o = (tg : Nat)) (h1 : z.toInt ≤ x.toInt → Go C tg L S H cells slots) (h2 : x.toInt < z.toInt → Go C nx L S H cells slots) : Go C pc L (.int z :: .int x :: S) H cells slots :=
  go_icmp hd ht (fun q => h1 ((h_ge q).mp rfl)) (fun q => h2 ((by have := mt (h_ge q).mpr (by simp); omega)))
theorem go_icgeY {o : Int} {x z : Int32} (hd : Dc bytes pc (.if_icmp .ge o) 3 nx) (ht : (pc : Int) + o = (tg : Nat)) (hc : z.toInt ≤ x.toInt) (h : Go C tg L S H cells slots) : Go C pc L (.int z :: .int x :: S) H cells slots :=
  go_icge hd ht (fun _ => h) (fun q => absurd hc (by first | exact q | exact not_not_intro q | omega))
theorem go_icgeN {o : Int} {x z : Int32} (hd : Dc bytes pc (.if_icmp .ge o) 3 nx) (ht : (pc : Int) + o = (tg : Nat)) (hc : x.toInt < z.toInt) (h : Go C nx L S H cells slots) : Go C pc L (.int z :: .int x :: S) H cells slots :=
  go_icge hd ht (fun q => absurd hc (by first | exact q | exact not_not_intro q | omega)) (fun _ => h)
theorem go_ifge {o : Int} {x : Int32} (hd : Dc bytes pc (.ifCond .ge o) 3 nx) (ht : (pc : Int) + o = (tg : Nat)) (h1 : 0 ≤ x.toInt → Go C tg L S H cells slots) (h2 : x.toInt < 0 → Go C nx L S H cells slots) : Go C pc L (.int x :: S) H cells slots :=
  go_if hd ht (fun q => h1 ((by have := (h_ge q).mp rfl; simpa using this))) (fun q => h2 ((by have := mt (h_ge q).mpr (by simp); simpa using this)))
theorem go_ifgeY {o : Int} {x : Int32} (hd : Dc bytes pc (.ifCond .ge o) 3 nx) (ht : (pc : Int) + o = (tg : Nat)) (hc : 0 ≤ x.toInt) (h : Go C tg L S H cells slots) : Go C pc L (.int x :: S) H cells slots :=
  go_ifge hd ht (fun _ => h) (fun q => absurd hc (by first | exact q | exact not_not_intro q | omega))
theorem go_ifgeN {o : Int} {x : Int32} (hd : Dc bytes pc (.ifCond .ge o) 3 nx) (ht : (pc : Int) + o = (tg : Nat)) (hc : x.toInt < 0) (h : Go C nx L S H cells slots) : Go C pc L (.int x :: S) H cells slots :=
  go_ifge hd ht (fun q => absurd hc (by first | exact q | exact not_not_intro q | omega)) (fun _ => h)
theorem go_icgt {o : Int} {x z : Int32} (hd : Dc bytes pc (.if_icmp .gt o) 3 nx) (ht : (pc : Int) + o = (tg : Nat)) (h1 : z.toInt < x.toInt → Go C tg L S H cells slots) (h2 : x.toInt ≤ z.toInt → Go C nx L S H cells slots) : Go C pc L (.int z :: .int x :: S) H cells slots :=
  go_icmp hd ht (fun q => h1 ((h_gt q).mp rfl)) (fun q => h2 ((by have := mt (h_gt q).mpr (by simp); omega)))
theorem go_icgtY {o : Int} {x z : Int32} (hd : Dc bytes pc (.if_icmp .gt o) 3 nx) (ht : (pc : Int) + o = (tg : Nat)) (hc : z.toInt < x.toInt) (h : Go C tg L S H cells slots) : Go C pc L (.int z :: .int x :: S) H cells slots :=
  go_icgt hd ht (fun _ => h) (fun q => absurd hc (by first | exact q | exact not_not_intro q | omega))
theorem go_icgtN {o : Int} {x z : Int32} (hd : Dc bytes pc (.if_icmp .gt o) 3 nx) (ht : (pc : Int) + o = (tg : Nat)) (hc : x.toInt ≤ z.toInt) (h : Go C nx L S H cells slots) : Go C pc L (.int z :: .int x :: S) H cells slots :=
  go_icgt hd ht (fun q => absurd hc (by first | exact q | exact not_not_intro q | omega)) (fun _ => h)
theorem go_ifgt {o : Int} {x : Int32} (hd : Dc bytes pc (.ifCond .gt o) 3 nx) (ht : (pc : Int) + o = (tg : Nat)) (h1 : 0 < x.toInt → Go C tg L S H cells slots) (h2 : x.toInt ≤ 0 → Go C nx L S H cells slots) : Go C pc L (.int x :: S) H cells slots :=
  go_if hd ht (fun q => h1 ((by have := (h_gt q).mp rfl; simpa using this))) (fun q => h2 ((by have := mt (h_gt q).mpr (by simp); simpa using this)))
theorem go_ifgtY {o : Int} {x : Int32} (hd : Dc bytes pc (.ifCond .gt o) 3 nx) (ht : (pc : Int) + o = (tg : Nat)) (hc : 0 < x.toInt) (h : Go C tg L S H cells slots) : Go C pc L (.int x :: S) H cells slots :=
  go_ifgt hd ht (fun _ => h) (fun q => absurd hc (by first | exact q | exact not_not_intro q | omega))
theorem go_ifgtN {o : Int} {x : Int32} (hd : Dc bytes pc (.ifCond .gt o) 3 nx) (ht : (pc : Int) + o = (tg : Nat)) (hc : x.toInt ≤ 0) (h : Go C nx L S H cells slots) : Go C pc L (.int x :: S) H cells slots :=
  go_ifgt hd ht (fun q => absurd hc (by first | exact q | exact not_not_intro q | omega)) (fun _ => h)
theorem go_icle {o : Int} {x z : Int32} (hd : Dc bytes pc (.if_icmp .le o) 3 nx) (ht : (pc : Int) + o = (tg : Nat)) (h1 : x.toInt ≤ z.toInt → Go C tg L S H cells slots) (h2 : z.toInt < x.toInt → Go C nx L S H cells slots) : Go C pc L (.int z :: .int x :: S) H cells slots :=
  go_icmp hd ht (fun q => h1 ((h_le q).mp rfl)) (fun q => h2 ((by have := mt (h_le q).mpr (by simp); omega)))
theorem go_icleY {o : Int} {x z : Int32} (hd : Dc bytes pc (.if_icmp .le o) 3 nx) (ht : (pc : Int) + o = (tg : Nat)) (hc : x.toInt ≤ z.toInt) (h : Go C tg L S H cells slots) : Go C pc L (.int z :: .int x :: S) H cells slots :=
  go_icle hd ht (fun _ => h) (fun q => absurd hc (by first | exact q | exact not_not_intro q | omega))
theorem go_icleN {o : Int} {x z : Int32} (hd : Dc bytes pc (.if_icmp .le o) 3 nx) (ht : (pc : Int) + o = (tg : Nat)) (hc : z.toInt < x.toInt) (h : Go C nx L S H cells slots) : Go C pc L (.int z :: .int x :: S) H cells slots :=
  go_icle hd ht (fun q => absurd hc (by first | exact q | exact not_not_intro q | omega)) (fun _ => h)
theorem go_ifle {o : Int} {x : Int32} (hd : Dc bytes pc (.ifCond .le o) 3 nx) (ht : (pc : Int) + o = (tg : Nat)) (h1 : x.toInt ≤ 0 → Go C tg L S H cells slots) (h2 : 0 < x.toInt → Go C nx L S H cells slots) : Go C pc L (.int x :: S) H cells slots :=
  go_if hd ht (fun q => h1 ((by have := (h_le q).mp rfl; simpa using this))) (fun q => h2 ((by have := mt (h_le q).mpr (by simp); simpa using this)))
theorem go_ifleY {o : Int} {x : Int32} (hd : Dc bytes pc (.ifCond .le o) 3 nx) (ht : (pc : Int) + o = (tg : Nat)) (hc : x.toInt ≤ 0) (h : Go C tg L S H cells slots) : Go C pc L (.int x :: S) H cells slots :=
  go_ifle hd ht (fun _ => h) (fun q => absurd hc (by first | exact q | exact not_not_intro q | omega))
theorem go_ifleN {o : Int} {x : Int32} (hd : Dc bytes pc (.ifCond .le o) 3 nx) (ht : (pc : Int) + o = (tg : Nat)) (hc : 0 < x.toInt) (h : Go C nx L S H cells slots) : Go C pc L (.int x :: S) H cells slots :=
  go_ifle hd ht (fun q => absurd hc (by first | exact q | exact not_not_intro q | omega)) (fun _ => h)
theorem lcm_eq (x z : Int64) : XT.cmpL x z = 0 ↔ x = z := by
  unfold XT.cmpL
  by_cases h1 : z < x
  · rw [if_pos h1]; constructor
    · intro h; cases h
    · rintro rfl; exact (Int64.lt_irrefl h1).elim
  · rw [if_neg h1]; by_cases h2 : x = z
    · rw [if_pos h2]; simp [h2]
    · rw [if_neg h2]; constructor
      · intro h; cases h
      · intro h; exact absurd h h2
theorem lcm_lt (x z : Int64) : (XT.cmpL x z).toInt < 0 ↔ x.toInt < z.toInt := by
  unfold XT.cmpL
  by_cases h1 : z < x
  · rw [if_pos h1]; rw [Int64.lt_iff_toInt_lt] at h1; constructor
    · intro h; exact absurd h (by decide)
    · intro h; omega
  · rw [if_neg h1]; rw [Int64.lt_iff_toInt_lt] at h1; by_cases h2 : x = z
    · rw [if_pos h2]; subst h2; constructor
      · intro h; exact absurd h (by decide)
      · intro h; omega
    · rw [if_neg h2]; have : x.toInt ≠ z.toInt := fun q => h2 (Int64.toInt_inj.mp q)
      constructor
      · intro h; omega
      · intro h; decide
theorem lcm_gt (x z : Int64) : 0 < (XT.cmpL x z).toInt ↔ z.toInt < x.toInt := by
  unfold XT.cmpL
  by_cases h1 : z < x
  · rw [if_pos h1]; rw [Int64.lt_iff_toInt_lt] at h1; constructor
    · intro h; omega
    · intro h; decide
  · rw [if_neg h1]; rw [Int64.lt_iff_toInt_lt] at h1; by_cases h2 : x = z
    · rw [if_pos h2]; subst h2; constructor
      · intro h; exact absurd h (by decide)
      · intro h; omega
    · rw [if_neg h2]; constructor
      · intro h; exact absurd h (by decide)
      · intro h; omega
theorem go_lcmp {x z : Int64} (hd : Dc bytes pc .lcmp 1 nx) (h : Go C nx L (.int (XT.cmpL x z) :: S) H cells slots) : Go C pc L (.long z :: .long x :: S) H cells slots :=
  go_pure (fun T _ _ _ X t k => by obtain ⟨hd, rfl⟩ := hd; exact XT.lcmp X.here C.exec rfl (hb C.bys hd) rfl k) h
theorem go_lceq {o : Int} {x z : Int64} {p1 : Nat} (hd1 : Dc bytes pc .lcmp 1 p1) (hd : Dc bytes p1 (.ifCond .eq o) 3 nx) (ht : (p1 : Int) + o = (tg : Nat)) (h1 : x = z → Go C tg L S H cells slots) (h2 : ¬ x = z → Go C nx L S H cells slots) : Go C pc L (.long z :: .long x :: S) H cells slots :=
  go_lcmp hd1 (go_ifeq hd ht (fun q => h1 ((lcm_eq x z).mp q)) (fun q => h2 (fun r => q ((lcm_eq x z).mpr r))))
theorem go_lcne {o : Int} {x z : Int64} {p1 : Nat} (hd1 : Dc bytes pc .lcmp 1 p1) (hd : Dc bytes p1 (.ifCond .ne o) 3 nx) (ht : (p1 : Int) + o = (tg : Nat)) (h1 : ¬ x = z → Go C tg L S H cells slots) (h2 : x = z → Go C nx L S H cells slots) : Go C pc L (.long z :: .long x :: S) H cells slots :=
  go_lcmp hd1 (go_ifne hd ht (fun q => h1 (fun r => q ((lcm_eq x z).mpr r))) (fun q => h2 ((lcm_eq x z).mp q)))
theorem go_lclt {o : Int} {x z : Int64} {p1 : Nat} (hd1 : Dc bytes pc .lcmp 1 p1) (hd : Dc bytes p1 (.ifCond .lt o) 3 nx) (ht : (p1 : Int) + o = (tg : Nat)) (h1 : x.toInt < z.toInt → Go C tg L S H cells slots) (h2 : z.toInt ≤ x.toInt → Go C nx L S H cells slots) : Go C pc L (.long z :: .long x :: S) H cells slots :=
  go_lcmp hd1 (go_iflt hd ht (fun q => h1 (by have := lcm_lt x z; omega)) (fun q => h2 (by have := lcm_lt x z; omega)))
theorem go_lcge {o : Int} {x z : Int64} {p1 : Nat} (hd1 : Dc bytes pc .lcmp 1 p1) (hd : Dc bytes p1 (.ifCond .ge o) 3 nx) (ht : (p1 : Int) + o = (tg : Nat)) (h1 : z.toInt ≤ x.toInt → Go C tg L S H cells slots) (h2 : x.toInt < z.toInt → Go C nx L S H cells slots) : Go C pc L (.long z :: .long x :: S) H cells slots :=
  go_lcmp hd1 (go_ifge hd ht (fun q => h1 (by have := lcm_lt x z; omega)) (fun q => h2 (by have := lcm_lt x z; omega)))
theorem go_lcgt {o : Int} {x z : Int64} {p1 : Nat} (hd1 : Dc bytes pc .lcmp 1 p1) (hd : Dc bytes p1 (.ifCond .gt o) 3 nx) (ht : (p1 : Int) + o = (tg : Nat)) (h1 : z.toInt < x.toInt → Go C tg L S H cells slots) (h2 : x.toInt ≤ z.toInt → Go C nx L S H cells slots) : Go C pc L (.long z :: .long x :: S) H cells slots :=
  go_lcmp hd1 (go_ifgt hd ht (fun q => h1 (by have := lcm_gt x z; omega)) (fun q => h2 (by have := lcm_gt x z; omega)))
theorem go_lcle {o : Int} {x z : Int64} {p1 : Nat} (hd1 : Dc bytes pc .lcmp 1 p1) (hd : Dc bytes p1 (.ifCond .le o) 3 nx) (ht : (p1 : Int) + o = (tg : Nat)) (h1 : x.toInt ≤ z.toInt → Go C tg L S H cells slots) (h2 : z.toInt < x.toInt → Go C nx L S H cells slots) : Go C pc L (.long z :: .long x :: S) H cells slots :=
  go_lcmp hd1 (go_ifle hd ht (fun q => h1 (by have := lcm_gt x z; omega)) (fun q => h2 (by have := lcm_gt x z; omega)))
theorem go_acmp {cd : ACond} {o : Int} {v w : Value} {same : Bool} (hd : Dc bytes pc (.if_acmp cd o) 3 nx) (hv : v.isRef = true) (hw : w.isRef = true) (hs : decide (v = w) = same) (ht : (pc : Int) + o = (tg : Nat)) (h : Go C (if acV cd same = true then tg else nx) L S H cells slots) : Go C pc L (w :: v :: S) H cells slots :=
  go_pure (fun T _ _ _ X t k => by
    obtain ⟨hd, rfl⟩ := hd
    refine Jvm.RoadKit.acmp (g := frm b m pc L (w :: v :: S)) X C.exec rfl ((isRef_up b v).trans hv) ((isRef_up b w).trans hw) (pc0 := pc) (same := same) rfl (hb C.bys hd) rfl ?_ (by omega) (pc' := if acV cd same = true then tg else pc + 3) ?_ k
    · rw [← hs]
      have : upV b v = upV b w ↔ v = w := by
        constructor
        · intro q; cases v <;> cases w <;> simp_all [upV, Value.isRef]
        · intro q; rw [q]
      simp [this]
    · congr 1; omega) h
theorem go_ifnull_null {o : Int} (hd : Dc bytes pc (.ifnull o) 3 nx) (ht : (pc : Int) + o = (tg : Nat)) (h : Go C tg L S H cells slots) : Go C pc L (.null :: S) H cells slots :=
  go_pure (fun T _ _ _ X t k => XS.ifnullYes X.here C.exec rfl (pc0 := pc) (pc' := tg) rfl (hb C.bys hd.1) rfl (by omega) (by omega) k) h
theorem go_ifnull_ref {o : Int} {a : Nat} (hd : Dc bytes pc (.ifnull o) 3 nx) (h : Go C nx L S H cells slots) : Go C pc L (.ref a :: S) H cells slots :=
  go_pure (fun T _ _ _ X t k => by obtain ⟨hd, rfl⟩ := hd; exact XS.ifnullNo X.here C.exec rfl (hb C.bys hd) rfl k) h
theorem go_ifnonnull_ref {o : Int} {a : Nat} (hd : Dc bytes pc (.ifnonnull o) 3 nx) (ht : (pc : Int) + o = (tg : Nat)) (h : Go C tg L S H cells slots) : Go C pc L (.ref a :: S) H cells slots :=
  go_pure (fun T _ _ _ X t k => XT.ifnonnullYes X.here C.exec rfl (pc0 := pc) (pc' := tg) rfl (hb C.bys hd.1) rfl (by omega) (by omega) k) h
def oneS : Slot → Bool
  | .unset => true
  | .val v => v.category == 1
  | .second => false
def notL : Slot → Bool
  | .unset => true
  | .val v => v.category == 1
  | .second => true
theorem oneS_up {o : Slot} (h : oneS o = true) : upS b o = .unset ∨ ∃ w, upS b o = .val w ∧ w.category = 1 := by
  cases o with
  | unset => exact Or.inl rfl
  | second => cases h
  | val v => exact Or.inr ⟨_, rfl, (cat_up b v).trans (by simpa [oneS] using h)⟩
theorem set_up (k : Nat) (v : Value) : (L.map (upS b)).toArray.setIfInBounds k (.val (upV b v)) = ((L.set k (.val v)).map (upS b)).toArray := by
  simp [List.map_set, upS]
theorem sto1 {k : Nat} {o : Slot} {v : Value} (hk : L[k]? = some o) (ho : oneS o = true) (hv : v.category = 1) : storeLocals (L.map (upS b)).toArray k (upV b v) = some ((L.set k (.val v)).map (upS b)).toArray := by
  rw [XS.store1 (getL hk) (oneS_up ho) ((cat_up b v).trans hv), set_up]
theorem sto2 {k : Nat} {o o' : Slot} {x : Int64} (hk : L[k]? = some o) (hk' : L[k + 1]? = some o') (ho : oneS o = true ∨ ∃ z, o = .val (.long z)) (ho' : notL o' = true) : storeLocals (L.map (upS b)).toArray k (.long x) = some (((L.set k (.val (.long x))).set (k + 1) .second).map (upS b)).toArray := by
  obtain ⟨A, hA⟩ : ∃ A, A = (L.map (upS b)).toArray := ⟨_, rfl⟩
  have e0 := getL (b := b) hk
  have e1 := getL (b := b) hk'
  have fin : ((L.map (upS b)).toArray.setIfInBounds k (.val (.long x))).setIfInBounds (k + 1) .second = (((L.set k (.val (.long x))).set (k + 1) .second).map (upS b)).toArray := by
    simp [List.map_set, upS, upV]
  rw [← fin]
  rw [← hA] at e0 e1 ⊢
  clear hA fin
  have i0 : k < A.size := (Array.getElem?_eq_some_iff.mp e0).1
  have i1 : k + 1 < A.size := (Array.getElem?_eq_some_iff.mp e1).1
  have s1 : ∀ B : Array Slot, B.size = A.size → setAt B (k + 1) .second = some (B.setIfInBounds (k + 1) .second) := fun B hB => by simp [setAt, hB, i1]
  have self : ∀ (B : Array Slot) (u : Slot), B.size = A.size → B[k + 1]? = some u → (∀ w, u = .val w → w.category ≠ 2) → storeSelf B k (.long x) = some ((B.setIfInBounds k (.val (.long x))).setIfInBounds (k + 1) .second) := by
    intro B u hB hu hc
    have e2 : (B.setIfInBounds k (.val (.long x)))[k + 1]? = some u := by
      rw [Array.getElem?_setIfInBounds_ne (by omega)]; exact hu
    have e3 : setAt B k (.val (.long x)) = some (B.setIfInBounds k (.val (.long x))) := by simp [setAt, hB, i0]
    have e4 := s1 (B.setIfInBounds k (.val (.long x))) (by simp [hB])
    unfold storeSelf
    rw [e3]
    simp only [Option.bind_eq_bind, Option.bind_some, Value.category, if_true, e2]
    cases u with
    | unset => exact e4
    | second => exact e4
    | val w =>
      have := hc w rfl
      simp only [Value.category] at this
      simp only [this, if_false]
      exact e4
  have n1 : ∀ w, upS b o' = .val w → w.category ≠ 2 := by
    intro w hw
    cases o' with
    | unset => cases hw
    | second => cases hw
    | val v => cases hw; rw [cat_up]; intro q; simp [notL, q] at ho'
  rcases ho with ho | ⟨z, rfl⟩
  · have a1 := oneS_up (b := b) ho
    have step : storeLocals A k (.long x) = storeSelf A k (.long x) := by
      rcases a1 with a1 | ⟨w, a1, a2⟩
      · simp [storeLocals, e0, a1]
      · simp [storeLocals, e0, a1, a2]
    rw [step]
    exact self A _ rfl e1 n1
  · have step : storeLocals A k (.long x) = storeSelf (A.setIfInBounds (k + 1) .unset) k (.long x) := by
      have e3 : setAt A (k + 1) .unset = some (A.setIfInBounds (k + 1) .unset) := by simp [setAt, i1]
      unfold storeLocals
      rw [e0]
      simp only [upS, upV, Option.bind_eq_bind, Option.bind_some, Value.category, if_true, e3]
    rw [step, self (A.setIfInBounds (k + 1) .unset) .unset (by simp) (by simp [i1]) (fun w hw => by cases hw)]
    congr 1
    apply Array.ext_getElem?
    intro j
    simp only [Array.getElem?_setIfInBounds]
    by_cases q : k + 1 = j
    · subst q; simp
    · simp [q]
theorem go_istore {k : Nat} {o : Slot} {x : Int32} (hd : Dc bytes pc (.istore k) 2 nx) (hk : L[k]? = some o) (ho : oneS o = true) (h : Go C nx (L.set k (.val (.int x))) S H cells slots) : Go C pc L (.int x :: S) H cells slots :=
  go_pure (fun T _ _ _ X t r => by obtain ⟨hd, rfl⟩ := hd; exact XS.istore X.here C.exec rfl (hb C.bys hd) rfl (sto1 (v := .int x) hk ho rfl) r) h
theorem go_istoreN {k : Fin 4} {o : Slot} {x : Int32} (hd : Dc bytes pc (.istore_n k) 1 nx) (hk : L[k.val]? = some o) (ho : oneS o = true) (h : Go C nx (L.set k.val (.val (.int x))) S H cells slots) : Go C pc L (.int x :: S) H cells slots :=
  go_pure (fun T _ _ _ X t r => by obtain ⟨hd, rfl⟩ := hd; exact XS.istoreN X.here C.exec rfl (hb C.bys hd) rfl (sto1 (v := .int x) hk ho rfl) r) h
theorem cat_ref {v : Value} (h : v.isRef = true) : v.category = 1 := by cases v <;> first | rfl | cases h
theorem go_astore {k : Nat} {o : Slot} {v : Value} (hd : Dc bytes pc (.astore k) 2 nx) (hk : L[k]? = some o) (ho : oneS o = true) (hv : v.isRef = true) (h : Go C nx (L.set k (.val v)) S H cells slots) : Go C pc L (v :: S) H cells slots :=
  go_pure (fun T _ _ _ X t r => by obtain ⟨hd, rfl⟩ := hd; exact XS.astore X.here C.exec rfl (hb C.bys hd) rfl ((isRef_up b v).trans hv) (sto1 (v := v) hk ho (cat_ref hv)) r) h
theorem go_astoreN {k : Fin 4} {o : Slot} {v : Value} (hd : Dc bytes pc (.astore_n k) 1 nx) (hk : L[k.val]? = some o) (ho : oneS o = true) (hv : v.isRef = true) (h : Go C nx (L.set k.val (.val v)) S H cells slots) : Go C pc L (v :: S) H cells slots :=
  go_pure (fun T _ _ _ X t r => by obtain ⟨hd, rfl⟩ := hd; exact XS.astoreN X.here C.exec rfl (hb C.bys hd) rfl ((isRef_up b v).trans hv) (sto1 (v := v) hk ho (cat_ref hv)) r) h
theorem go_lstore {k : Nat} {o o' : Slot} {x : Int64} (hd : Dc bytes pc (.lstore k) 2 nx) (hk : L[k]? = some o) (hk' : L[k + 1]? = some o') (ho : oneS o = true ∨ ∃ z, o = .val (.long z)) (ho' : notL o' = true) (h : Go C nx ((L.set k (.val (.long x))).set (k + 1) .second) S H cells slots) : Go C pc L (.long x :: S) H cells slots :=
  go_pure (fun T _ _ _ X t r => by obtain ⟨hd, rfl⟩ := hd; exact XT.lstore X.here C.exec rfl (hb C.bys hd) rfl (sto2 hk hk' ho ho') r) h
theorem go_lstoreN {k : Fin 4} {o o' : Slot} {x : Int64} (hd : Dc bytes pc (.lstore_n k) 1 nx) (hk : L[k.val]? = some o) (hk' : L[k.val + 1]? = some o') (ho : oneS o = true ∨ ∃ z, o = .val (.long z)) (ho' : notL o' = true) (h : Go C nx ((L.set k.val (.val (.long x))).set (k.val + 1) .second) S H cells slots) : Go C pc L (.long x :: S) H cells slots :=
  go_pure (fun T _ _ _ X t r => by obtain ⟨hd, rfl⟩ := hd; exact XT.lstoreN X.here C.exec rfl (hb C.bys hd) rfl (sto2 hk hk' ho ho') r) h
theorem go_iinc {k : Nat} {i : Int} {x z : Int32} (hd : Dc bytes pc (.iinc k i) 3 nx) (hk : L[k]? = some (.val (.int x))) (hz : Int32.ofInt i = z) (h : Go C nx (L.set k (.val (.int (x + z)))) S H cells slots) : Go C pc L S H cells slots :=
  go_pure (fun T _ _ _ X t r => by obtain ⟨hd, rfl⟩ := hd; subst hz; exact XS.iinc X.here C.exec rfl (hb C.bys hd) (getL hk) (sto1 (v := .int (x + Int32.ofInt i)) hk rfl rfl) r) h
/-! ### the heap -/
theorem cell_arr {i : Nat} {ty : FieldType} {vs : List Value} {h : Heap} (RR : Rel Z a0 b H h) (hH : H[i]? = some (ar ty vs)) : ∃ c : Cell, Arr Z h (b + i) c ty ∧ c.slots = (vs.map (upV b)).toArray := RR.2 i _ hH
theorem idx_ok {j : Int32} {k n : Nat} (hj : j.toInt = (k : Int)) (hk : k < n) : ¬ (j < 0 ∨ n ≤ j.toNatClampNeg) := by
  rw [Int32.lt_iff_toInt_lt]
  have e0 : (0 : Int32).toInt = 0 := rfl
  simp only [Int32.toNatClampNeg, hj, e0]
  omega
theorem clamp_eq {j : Int32} {k : Nat} (hj : j.toInt = (k : Int)) : j.toNatClampNeg = k := by simp [Int32.toNatClampNeg, hj]
theorem go_iaload {i k : Nat} {vs : List Value} {j : Int32} {v : Value} (hd : Dc bytes pc .iaload 1 nx) (hH : H[i]? = some (ar .int vs)) (hj : j.toInt = (k : Int)) (hv : vs[k]? = some v) (h : Go C nx L (v :: S) H cells slots) : Go C pc L (.int j :: .ref i :: S) H cells slots := by
  intro T locs X N RR
  obtain ⟨c1, A, e1⟩ := cell_arr RR hH
  obtain ⟨hd, rfl⟩ := hd
  have hk : k < vs.length := (List.getElem?_eq_some_iff.mp hv).1
  exact (h T locs X N RR).back fun t r => X.iaload C.exec A.1 (State.isArrayOf_alike C.warm.alike A.2.1) A.2.2 (idx_ok hj (by rw [e1]; simpa using hk)) (by rw [clamp_eq hj, e1]; simp [hv]) (g := frm b m pc L (.int j :: .ref i :: S)) rfl rfl (hb C.bys hd) t r
theorem go_laload {i k : Nat} {vs : List Value} {j : Int32} {v : Value} (hd : Dc bytes pc .laload 1 nx) (hH : H[i]? = some (ar .long vs)) (hj : j.toInt = (k : Int)) (hv : vs[k]? = some v) (h : Go C nx L (v :: S) H cells slots) : Go C pc L (.int j :: .ref i :: S) H cells slots := by
  intro T locs X N RR
  obtain ⟨c1, A, e1⟩ := cell_arr RR hH
  obtain ⟨hd, rfl⟩ := hd
  have hk : k < vs.length := (List.getElem?_eq_some_iff.mp hv).1
  exact (h T locs X N RR).back fun t r => X.laload C.exec A.1 (State.isArrayOf_alike C.warm.alike A.2.1) A.2.2 (idx_ok hj (by rw [e1]; simpa using hk)) (by rw [clamp_eq hj, e1]; simp [hv]) (g := frm b m pc L (.int j :: .ref i :: S)) rfl rfl (hb C.bys hd) t r
theorem go_baload {i k : Nat} {vs : List Value} {j : Int32} {v : Value} (hd : Dc bytes pc .baload 1 nx) (hH : H[i]? = some (ar .byte vs)) (hj : j.toInt = (k : Int)) (hv : vs[k]? = some v) (h : Go C nx L (v :: S) H cells slots) : Go C pc L (.int j :: .ref i :: S) H cells slots := by
  intro T locs X N RR
  obtain ⟨c1, A, e1⟩ := cell_arr RR hH
  obtain ⟨hd, rfl⟩ := hd
  have hk : k < vs.length := (List.getElem?_eq_some_iff.mp hv).1
  exact (h T locs X N RR).back fun t r => X.baloadBytes C.exec A.1 (State.isArrayOf_alike C.warm.alike A.2.1) A.2.2 (idx_ok hj (by rw [e1]; simpa using hk)) (by rw [clamp_eq hj, e1]; simp [hv]) (g := frm b m pc L (.int j :: .ref i :: S)) rfl rfl (hb C.bys hd) t r
theorem go_zaload {i k : Nat} {vs : List Value} {j : Int32} {v : Value} (hd : Dc bytes pc .baload 1 nx) (hH : H[i]? = some (ar .boolean vs)) (hj : j.toInt = (k : Int)) (hv : vs[k]? = some v) (h : Go C nx L (v :: S) H cells slots) : Go C pc L (.int j :: .ref i :: S) H cells slots := by
  intro T locs X N RR
  obtain ⟨c1, A, e1⟩ := cell_arr RR hH
  obtain ⟨hd, rfl⟩ := hd
  have hk : k < vs.length := (List.getElem?_eq_some_iff.mp hv).1
  exact (h T locs X N RR).back fun t r => X.baloadBooleans C.exec A.1 (State.isArrayOf_alike C.warm.alike A.2.1) A.2.2 (idx_ok hj (by rw [e1]; simpa using hk)) (by rw [clamp_eq hj, e1]; simp [hv]) (g := frm b m pc L (.int j :: .ref i :: S)) rfl rfl (hb C.bys hd) t r
theorem go_aaload {i k : Nat} {ty : FieldType} {vs : List Value} {j : Int32} {v : Value} (hd : Dc bytes pc .aaload 1 nx) (hH : H[i]? = some (ar ty vs)) (hty : ty.isReference = true) (hj : j.toInt = (k : Int)) (hv : vs[k]? = some v) (h : Go C nx L (v :: S) H cells slots) : Go C pc L (.int j :: .ref i :: S) H cells slots := by
  intro T locs X N RR
  obtain ⟨c1, A, e1⟩ := cell_arr RR hH
  obtain ⟨hd, rfl⟩ := hd
  have hk : k < vs.length := (List.getElem?_eq_some_iff.mp hv).1
  exact (h T locs X N RR).back fun t r => X.aaload C.exec A.1 (State.isArrayOf_alike C.warm.alike A.2.1) hty A.2.2 (idx_ok hj (by rw [e1]; simpa using hk)) (by rw [clamp_eq hj, e1]; simp [hv]) (g := frm b m pc L (.int j :: .ref i :: S)) rfl rfl (hb C.bys hd) t r
theorem go_len {i : Nat} {ty : FieldType} {vs : List Value} {n : Int32} (hd : Dc bytes pc .arraylength 1 nx) (hH : H[i]? = some (ar ty vs)) (hn : vs.length.toInt32 = n) (h : Go C nx L (.int n :: S) H cells slots) : Go C pc L (.ref i :: S) H cells slots := by
  intro T locs X N RR
  obtain ⟨c1, A, e1⟩ := cell_arr RR hH
  obtain ⟨hd, rfl⟩ := hd
  subst hn
  refine (h T locs X N RR).back fun t k => X.arraylength C.exec A.1 (State.isArrayOf_alike C.warm.alike A.2.1) (g := frm b m pc L (.ref i :: S)) rfl rfl (hb C.bys hd) t ?_
  have e2 : c1.slots.size = vs.length := by rw [e1]; simp
  rw [e2]
  exact k
theorem go_getfield {i j idx : Nat} {Cn n d : String} {fs : List (String × String × Value)} {v : Value} (hd : Dc bytes pc (.getfield idx) 3 nx) (w : Jvm.Cond.fieldLink y.cls idx Cn n d ∈ W) (hH : H[i]? = some (ob Cn fs)) (hf : fs[j]? = some (n, d, v)) (h : Go C nx L (v :: S) H cells slots) : Go C pc L (.ref i :: S) H cells slots := by
  intro T locs X N RR
  obtain ⟨hd, rfl⟩ := hd
  have K : CellOk Z a0 b T.heap (b + i) (ob Cn fs) := RR.2 i _ hH
  obtain ⟨T1, X1, e1, st⟩ := getF X C.exec C.warm C.own (host := "") (Or.inl (C.hw _ w)) Via.refl rfl (K.2.1 _ (List.mem_of_getElem? hf)).1 (g := frm b m pc L (.ref i :: S)) rfl rfl (hb C.bys hd)
  exact (h T1 locs X1 N (by rw [e1]; exact RR)).back st
theorem go_getfieldN {i j idx : Nat} {Cn n d host : String} {fs : List (String × String × Value)} {v : Value} (hd : Dc bytes pc (.getfield idx) 3 nx) (w : Jvm.Cond.fieldLinkNest y.cls idx Cn n d host ∈ W) (hH : H[i]? = some (ob Cn fs)) (hf : fs[j]? = some (n, d, v)) (h : Go C nx L (v :: S) H cells slots) : Go C pc L (.ref i :: S) H cells slots := by
  intro T locs X N RR
  obtain ⟨hd, rfl⟩ := hd
  have K : CellOk Z a0 b T.heap (b + i) (ob Cn fs) := RR.2 i _ hH
  obtain ⟨T1, X1, e1, st⟩ := getF X C.exec C.warm C.own (Or.inr (C.hw _ w)) Via.refl rfl (K.2.1 _ (List.mem_of_getElem? hf)).1 (g := frm b m pc L (.ref i :: S)) rfl rfl (hb C.bys hd)
  exact (h T1 locs X1 N (by rw [e1]; exact RR)).back st
theorem go_putfieldN {i j idx kk : Nat} {Cn n d : String} {fs : List (String × String × Value)} {v v' o : Value} {ty : FieldType} (hd : Dc bytes pc (.putfield idx) 3 nx) (w : Jvm.Cond.fieldLink y.cls idx Cn n d ∈ W) (wl : Jvm.Cond.lays Cn Cn n d ∈ W ∨ (Jvm.Cond.laysFinal Cn Cn n d ∈ W ∧ y.cls = Cn ∧ y.name = "<init>")) (wi : Jvm.Cond.instantiable Cn kk ∈ W) (hty : parseFieldDescriptor d = some ty) (hH : H[i]? = some (ob Cn fs)) (hf : fs[j]? = some (n, d, o)) (hn : narrow ty (upV b v) = upV b v') (hfit : fits ty (upV b v') = true)
    (h : Go C nx L S (H.set i (ob Cn (fs.set j (n, d, v')))) cells slots) : Go C pc L (v :: .ref i :: S) H cells slots := by
  intro T locs X N RR
  obtain ⟨hd, rfl⟩ := hd
  have K : CellOk Z a0 b T.heap (b + i) (ob Cn fs) := RR.2 i _ hH
  obtain ⟨T1, h1, X1, e1, W1, st⟩ := putFN X C.exec C.warm C.own (C.hw _ w) Via.refl rfl (K.2.1 _ (List.mem_of_getElem? hf)).1 K.1 (wl.imp (fun q => C.hw _ q) (fun q => ⟨C.hw _ q.1, q.2.1, C.named.trans q.2.2⟩)) (C.hw _ wi) hty hn hfit (g := frm b m pc L (v :: .ref i :: S)) rfl rfl (hb C.bys hd)
  exact (h T1 _ X1 (Fr.snoc X1 N (Nat.le_add_right ..)) (by rw [e1]; exact RR.wr W1 (K.fset hf W1))).back st
theorem go_putfield {i j idx kk : Nat} {Cn n d : String} {fs : List (String × String × Value)} {v o : Value} {ty : FieldType} (hd : Dc bytes pc (.putfield idx) 3 nx) (w : Jvm.Cond.fieldLink y.cls idx Cn n d ∈ W) (wl : Jvm.Cond.lays Cn Cn n d ∈ W ∨ (Jvm.Cond.laysFinal Cn Cn n d ∈ W ∧ y.cls = Cn ∧ y.name = "<init>")) (wi : Jvm.Cond.instantiable Cn kk ∈ W) (hty : parseFieldDescriptor d = some ty) (hH : H[i]? = some (ob Cn fs)) (hf : fs[j]? = some (n, d, o)) (hn : narrow ty (upV b v) = upV b v) (hfit : fits ty (upV b v) = true)
    (h : Go C nx L S (H.set i (ob Cn (fs.set j (n, d, v)))) cells slots) : Go C pc L (v :: .ref i :: S) H cells slots := go_putfieldN hd w wl wi hty hH hf hn hfit h
theorem go_iastore {i k : Nat} {vs : List Value} {j : Int32} {x : Int32} (hd : Dc bytes pc .iastore 1 nx) (hH : H[i]? = some (ar .int vs)) (hj : j.toInt = (k : Int)) (hk : k < vs.length) (h : Go C nx L S (H.set i (ar .int (vs.set k (.int (x))))) cells slots) : Go C pc L (.int x :: .int j :: .ref i :: S) H cells slots := by
  intro T locs X N RR
  obtain ⟨c1, A, e1⟩ := cell_arr RR hH
  obtain ⟨hd, rfl⟩ := hd
  obtain ⟨T1, h1, X1, eh, W1, st⟩ := stI X C.exec C.warm rfl A (j := j) (idx_ok hj (by rw [e1]; simpa using hk)) (g := frm b m pc L (.int x :: .int j :: .ref i :: S)) rfl rfl (hb C.bys hd)
  rw [clamp_eq hj] at W1
  have K : CellOk Z a0 b h1 (b + i) (ar .int (vs.set k (.int (x)))) := ⟨_, A.same W1, by simp [Cell.setSlot, e1, List.map_set, upV, nar]⟩
  exact (h T1 _ X1 (Fr.snoc X1 N (Nat.le_add_right ..)) (by rw [eh]; exact RR.wr W1 K)).back st
theorem go_lastore {i k : Nat} {vs : List Value} {j : Int32} {x : Int64} (hd : Dc bytes pc .lastore 1 nx) (hH : H[i]? = some (ar .long vs)) (hj : j.toInt = (k : Int)) (hk : k < vs.length) (h : Go C nx L S (H.set i (ar .long (vs.set k (.long (x))))) cells slots) : Go C pc L (.long x :: .int j :: .ref i :: S) H cells slots := by
  intro T locs X N RR
  obtain ⟨c1, A, e1⟩ := cell_arr RR hH
  obtain ⟨hd, rfl⟩ := hd
  obtain ⟨T1, h1, X1, eh, W1, st⟩ := stJ X C.exec C.warm rfl A (j := j) (idx_ok hj (by rw [e1]; simpa using hk)) (g := frm b m pc L (.long x :: .int j :: .ref i :: S)) rfl rfl (hb C.bys hd)
  rw [clamp_eq hj] at W1
  have K : CellOk Z a0 b h1 (b + i) (ar .long (vs.set k (.long (x)))) := ⟨_, A.same W1, by simp [Cell.setSlot, e1, List.map_set, upV, nar]⟩
  exact (h T1 _ X1 (Fr.snoc X1 N (Nat.le_add_right ..)) (by rw [eh]; exact RR.wr W1 K)).back st
theorem go_bastore {i k : Nat} {vs : List Value} {j : Int32} {x : Int32} (hd : Dc bytes pc .bastore 1 nx) (hH : H[i]? = some (ar .byte vs)) (hj : j.toInt = (k : Int)) (hk : k < vs.length) (h : Go C nx L S (H.set i (ar .byte (vs.set k (.int (x.toInt8.toInt32))))) cells slots) : Go C pc L (.int x :: .int j :: .ref i :: S) H cells slots := by
  intro T locs X N RR
  obtain ⟨c1, A, e1⟩ := cell_arr RR hH
  obtain ⟨hd, rfl⟩ := hd
  obtain ⟨T1, h1, X1, eh, W1, st⟩ := stB X C.exec C.warm rfl A (j := j) (idx_ok hj (by rw [e1]; simpa using hk)) (g := frm b m pc L (.int x :: .int j :: .ref i :: S)) rfl rfl (hb C.bys hd)
  rw [clamp_eq hj] at W1
  have K : CellOk Z a0 b h1 (b + i) (ar .byte (vs.set k (.int (x.toInt8.toInt32)))) := ⟨_, A.same W1, by simp [Cell.setSlot, e1, List.map_set, upV, nar]⟩
  exact (h T1 _ X1 (Fr.snoc X1 N (Nat.le_add_right ..)) (by rw [eh]; exact RR.wr W1 K)).back st
theorem go_zastore {i k : Nat} {vs : List Value} {j : Int32} {x : Int32} (hd : Dc bytes pc .bastore 1 nx) (hH : H[i]? = some (ar .boolean vs)) (hj : j.toInt = (k : Int)) (hk : k < vs.length) (h : Go C nx L S (H.set i (ar .boolean (vs.set k (.int (x &&& 1))))) cells slots) : Go C pc L (.int x :: .int j :: .ref i :: S) H cells slots := by
  intro T locs X N RR
  obtain ⟨c1, A, e1⟩ := cell_arr RR hH
  obtain ⟨hd, rfl⟩ := hd
  obtain ⟨T1, h1, X1, eh, W1, st⟩ := stZ X C.exec C.warm rfl A (j := j) (idx_ok hj (by rw [e1]; simpa using hk)) (g := frm b m pc L (.int x :: .int j :: .ref i :: S)) rfl rfl (hb C.bys hd)
  rw [clamp_eq hj] at W1
  have K : CellOk Z a0 b h1 (b + i) (ar .boolean (vs.set k (.int (x &&& 1)))) := ⟨_, A.same W1, by simp [Cell.setSlot, e1, List.map_set, upV, nar]⟩
  exact (h T1 _ X1 (Fr.snoc X1 N (Nat.le_add_right ..)) (by rw [eh]; exact RR.wr W1 K)).back st
/-- the fields of a new object, laid -/
def Laids (Z : State) (a0 : Array Value) (b : Nat) (Cn : String) : List (String × String × Value) → Prop
  | [] => True
  | f :: fs => (Laid Z a0 Cn Cn f.1 f.2.1 ∧ ∃ t, parseFieldDescriptor f.2.1 = some t ∧ defaultValue t = upV b f.2.2) ∧ Laids Z a0 b Cn fs
theorem Laids.all {Cn : String} : ∀ {fs : List (String × String × Value)}, Laids Z a0 b Cn fs → ∀ f ∈ fs, Laid Z a0 Cn Cn f.1 f.2.1 ∧ ∃ t, parseFieldDescriptor f.2.1 = some t ∧ defaultValue t = upV b f.2.2
  | [], _, f, hf => by cases hf
  | g :: gs, h, f, hf => by
    rcases List.mem_cons.mp hf with rfl | hf
    · exact h.1
    · exact Laids.all h.2 f hf
theorem go_new {idx n : Nat} {Cn : String} {fs : List (String × String × Value)} (hd : Dc bytes pc (.new idx) 3 nx) (w : Jvm.Cond.classLink y.cls idx Cn ∈ W) (wi : Jvm.Cond.instantiable Cn n ∈ W) (wz : Jvm.Cond.initialized Cn ∈ W) (hl : Laids Z a0 b Cn fs) (hnd : (fs.map (·.1)).Nodup) (hc : cells + 1 ≤ R.cells) (hs : slots + n ≤ R.slots)
    (h : Go C nx L (.ref H.length :: S) (H ++ [ob Cn fs]) (cells + 1) (slots + n)) : Go C pc L S H cells slots := by
  intro T locs X N RR
  obtain ⟨hd, rfl⟩ := hd
  obtain ⟨vm', cC, kC, h1, h2, h3, h4, X', st⟩ := X.newCold C.exec C.own (mv C.warm (C.hw _ w)) (mv C.warm (C.hw _ wi)) (mv C.warm (C.hw _ wz)) (g := frm b m pc L S) rfl (hb C.bys hd) hc hs
  rw [C.warm.alike.findClass] at h1
  obtain ⟨kZ, z1, -⟩ := Vm.findClass_spec h1
  obtain ⟨k', z2, z3⟩ := C.warm.alike.2.2 _ _ z1
  cases h2.symm.trans z2
  have ei : kC.instanceTypes = kZ.instanceTypes := by rw [z3]
  have hN : (T.heap.push { cls := cC, slots := kC.instanceTypes.map defaultValue, vm := .none })[T.heap.size]? = some { cls := cC, slots := kC.instanceTypes.map defaultValue, vm := .none } := by simp
  have hE : Ext T.heap (T.heap.push { cls := cC, slots := kC.instanceTypes.map defaultValue, vm := .none }) := ⟨by simp, fun a c q => by
    rw [Array.getElem?_push_lt (Array.getElem?_eq_some_iff.mp q).1]; exact (Array.getElem?_eq_getElem _).symm.trans q⟩
  have ea : T.heap.size = b + H.length := RR.1
  have st2 := st
  rw [ea] at st2
  refine (h _ locs X' N (RR.push hE (by simp) ?_)).back st2
  rw [← ea]
  refine ⟨⟨_, kZ, hN, h1, z1, rfl, fun _ => by simp [ei]⟩, fun f hf => ?_, hnd⟩
  obtain ⟨La, t, ht, hdv⟩ := hl.all f hf
  refine ⟨?_, La, t, ht⟩
  obtain ⟨c1, k1, cf, kf, i, ff, a1, a2, a3, a4, a5, a6, -⟩ := La.spec
  cases h1.symm.trans a1
  cases z1.symm.trans a2
  exact ⟨_, cf, kf, i, ff, hN, a3, a4, by simp, rfl, a5, by simp [ei, a6, (State.fieldFound?_type a3 ht).2, hdv]⟩
theorem up_default (t : FieldType) : upV b (defaultValue t) = defaultValue t := by cases t <;> rfl
theorem go_newarray {aty : ArrayType} {n : Int32} {k cap : Nat} {vs : List Value} (hd : Dc bytes pc (.newarray aty) 2 nx) (w : Jvm.Cond.arrayClass (newarray.typeOf aty) ∈ W) (hn : n.toInt = (k : Int)) (hv : List.replicate k (defaultValue (newarray.typeOf aty)) = vs) (hcap : k ≤ cap) (hbig : cap * 8 ≤ 536870912) (hc : cells + 1 ≤ R.cells) (hs : slots + cap ≤ R.slots)
    (h : Go C nx L (.ref H.length :: S) (H ++ [ar (newarray.typeOf aty) vs]) (cells + 1) (slots + cap)) : Go C pc L (.int n :: S) H cells slots := by
  intro T locs X N RR
  obtain ⟨hd, rfl⟩ := hd
  have hcb : componentBytes (newarray.typeOf aty) ≤ 8 := by cases aty <;> decide
  have ek := clamp_eq hn
  obtain ⟨cA, kA, comp, h1, h2, h3, X', st⟩ := X.newarrayPrim C.exec (mvA C.warm (C.hw _ w)) (g := frm b m pc L (.int n :: S)) rfl (hb C.bys hd) rfl (by rw [Int32.lt_iff_toInt_lt, hn]; have : (0 : Int32).toInt = 0 := rfl; omega) (by rw [ek]; exact Nat.le_trans (Nat.mul_le_mul hcap hcb) hbig) hc (by omega)
  rw [ek] at X' st
  rw [C.warm.alike.findClass] at h1
  obtain ⟨kZ, z1, -⟩ := Vm.findClass_spec h1
  obtain ⟨k', z2, z3⟩ := C.warm.alike.2.2 _ _ z1
  cases h2.symm.trans z2
  have ea : T.heap.size = b + H.length := RR.1
  have hE : Ext T.heap (T.heap.push { cls := cA, slots := Array.replicate k (defaultValue (newarray.typeOf aty)), vm := .none }) := ⟨by simp, fun a c q => by
    rw [Array.getElem?_push_lt (Array.getElem?_eq_some_iff.mp q).1]; exact (Array.getElem?_eq_getElem _).symm.trans q⟩
  have st2 := st
  rw [ea] at st2
  refine (h _ locs (X'.more (Nat.le_refl _) (by omega)) N (RR.push hE (by simp) ?_)).back st2
  rw [← ea]
  refine ⟨_, ⟨by show (T.heap.push _)[T.heap.size]? = _; simp; rfl, ⟨by simp, kZ, z1, comp, by rw [← h3, z3]⟩, by simp⟩, ?_⟩
  subst hv
  simp [up_default]
/-! ### calls -/
theorem go_initO {idx : Nat} (hd : Dc bytes pc (.invokespecial idx) 3 nx) (w1 : Jvm.Cond.methodLink y.cls idx Lib.objectInit ∈ W) (w2 : Jvm.Cond.instanceMethod Lib.objectInit ∈ W) (w3 : Jvm.Cond.code Lib.objectInit ⟨#[0xb1]⟩ 1 none ∈ W) (hL : L.length = nL) (hf : 1 ≤ R.frames) (wdt : Nat) (hwd : (S.map Value.category).sum ≤ wdt) (hlo : wdt + 12 ≤ R.locals) {i : Nat}
    (h : Go C nx L S H cells slots) : Go C pc L (.ref i :: S) H cells slots := by
  intro T locs X N RR
  obtain ⟨hd, rfl⟩ := hd
  obtain ⟨T1, X1, e1, st⟩ := initO X C.exec C.warm C.own (C.hw _ w1) (C.hw _ w2) (C.hw _ w3) rfl (g := frm b m pc L (.ref i :: S)) rfl (by simp [C.ml, hL]) rfl (hb C.bys hd) hf (W := wdt) (by
    have : ((S.map (upV b)).map fun v => v.category) = S.map Value.category := by rw [List.map_map]; exact List.map_congr_left fun v _ => cat_up b v
    show 2 * 0 + ((S.map (upV b)).map fun v => v.category).sum ≤ wdt
    rw [this]; omega) hlo
  exact (h T1 locs X1 N (by rw [e1]; exact RR)).back st
theorem wid_up (wdt : Nat) (hwd : (S.map Value.category).sum ≤ wdt) : 2 * 0 + ((S.map (upV b)).map fun v => v.category).sum ≤ wdt := by
  have : ((S.map (upV b)).map fun v => v.category) = S.map Value.category := by rw [List.map_map]; exact List.map_congr_left fun v _ => cat_up b v
  rw [this]; omega
theorem app_up (v : Option Value) : (v.map (upV b)).toList ++ S.map (upV b) = (v.toList ++ S).map (upV b) := by cases v <;> rfl
theorem go_virtual {y' : MethodName} {bytes' : ByteArray} {maxL : Nat} {ret' : Option FieldType} {rm : Room} {as : List Value} {i idx : Nat} {Cn : String} {fs : List (String × String × Value)} {P : Option Value → List GCell → Prop} {ps : List FieldType} {rt : Option FieldType}
    (hd : Dc bytes pc (.invokevirtual idx) 3 nx) (w1 : Jvm.Cond.methodLink y.cls idx y' ∈ W) (w2 : Jvm.Cond.declares y' ∈ W) (w3 : Jvm.Cond.selects Cn y' y' ∈ W) (w4 : Jvm.Cond.instanceMethod y' ∈ W) (w5 : Jvm.Cond.code y' bytes' maxL ret' ∈ W) (w6 : Jvm.Cond.initialized y'.cls ∈ W)
    (hy : y'.cls ≠ "java/lang/invoke/MethodHandle" ∧ y'.cls ≠ "java/lang/invoke/VarHandle") (hdesc : parseMethodDescriptor y'.desc = some ⟨ps, rt⟩) (hlen : as.length = ps.length)
    (M : Met l Z a0 b y' bytes' maxL ret' rm (.ref i :: as) H P) (hH : H[i]? = some (ob Cn fs)) (hS : S' = as.reverse ++ .ref i :: S) (hL : L.length = nL) (wdt : Nat) (hwd : (S.map Value.category).sum ≤ wdt)
    (hfr : rm.frames + 1 ≤ R.frames) (hlo : wdt + (maxL + 11) + rm.locals ≤ R.locals) (hc : cells + rm.cells ≤ R.cells) (hs : slots + rm.slots ≤ R.slots)
    (h : ∀ v H', P v H' → Go C nx L (v.toList ++ S) H' (cells + rm.cells) (slots + rm.slots)) : Go C pc L S' H cells slots := by
  intro T locs X N RR
  obtain ⟨hd, rfl⟩ := hd
  subst hS
  have E : Exa Z T.heap (b + i) Cn := (show CellOk Z a0 b T.heap (b + i) (ob Cn fs) from RR.2 i _ hH).1
  obtain ⟨cB, kB, q1, q2, q3⟩ := isOf (T := T) C.warm rfl E
  obtain ⟨_, _, ⟨T', L', k', n'⟩, -, X', ⟨Lc, hQ, l', y1, z1⟩, st⟩ := X.virtualBack C.exec (y := y') (z := y') C.own (mvT C.warm (C.hw _ w1)) (mvT C.warm (C.hw _ w2)) (notFace_of_selects (args := #[]) (mvT C.warm (C.hw _ w3))) (mvT C.warm (C.hw _ w3)) (mvT C.warm (C.hw _ w4)) hy
    (backOf (W := wdt) (M T.heap RR []) C.warm (C.hw _ w5) (C.hw _ w6) hfr hlo) q1 q3 (g := frm b m pc L (as.reverse ++ .ref i :: S)) rfl (by simp [C.ml, hL]) (Steps.refl _) (argsL := as.map (upV b)) (rest := S.map (upV b)) (lenOf hdesc (by simp [hlen])) (by simp [upV]) (wid_up wdt hwd) (hb C.bys hd) (fun _ _ => ⟨by simp [upV], rfl, hc, hs⟩)
  dsimp only [Pt.U, Pt.locs, Pt.cells, Pt.slots] at X' l' y1 z1 st hQ
  subst l' y1 z1
  obtain ⟨N2, v', H', rfl, RR', hP⟩ := hQ
  refine (h v' H' hP T' _ X' (Fr.app N N2) RR').back fun t k => st.trans ?_
  rw [app_up]
  exact k
theorem go_special {y' : MethodName} {bytes' : ByteArray} {maxL : Nat} {rm : Room} {as : List Value} {i idx : Nat} {P : Option Value → List GCell → Prop} {ps : List FieldType} {rt : Option FieldType} (hn : y'.name = "<init>")
    (hd : Dc bytes pc (.invokespecial idx) 3 nx) (w1 : Jvm.Cond.methodLink y.cls idx y' ∈ W) (w4 : Jvm.Cond.instanceMethod y' ∈ W) (w5 : Jvm.Cond.code y' bytes' maxL none ∈ W) (w6 : Jvm.Cond.initialized y'.cls ∈ W)
    (hy : y'.cls ≠ "java/lang/invoke/MethodHandle" ∧ y'.cls ≠ "java/lang/invoke/VarHandle") (hdesc : parseMethodDescriptor y'.desc = some ⟨ps, rt⟩) (hlen : as.length = ps.length)
    (M : Met l Z a0 b y' bytes' maxL none rm (.ref i :: as) H P) (hS : S' = as.reverse ++ .ref i :: S) (hL : L.length = nL) (wdt : Nat) (hwd : (S.map Value.category).sum ≤ wdt)
    (hfr : rm.frames + 1 ≤ R.frames) (hlo : wdt + (maxL + 11) + rm.locals ≤ R.locals) (hc : cells + rm.cells ≤ R.cells) (hs : slots + rm.slots ≤ R.slots)
    (h : ∀ v H', P v H' → Go C nx L (v.toList ++ S) H' (cells + rm.cells) (slots + rm.slots)) : Go C pc L S' H cells slots := by
  intro T locs X N RR
  obtain ⟨hd, rfl⟩ := hd
  subst hS
  obtain ⟨_, _, ⟨T', L', k', n'⟩, -, X', ⟨Lc, hQ, l', y1, z1⟩, st⟩ := X.specialBack C.exec (y := y') hn C.own (mvT C.warm (C.hw _ w1)) (mvT C.warm (C.hw _ w4)) (mvT C.warm (C.hw _ w5)) hy
    (backOf (W := wdt) (M T.heap RR []) C.warm (C.hw _ w5) (C.hw _ w6) hfr hlo) (g := frm b m pc L (as.reverse ++ .ref i :: S)) rfl (by simp [C.ml, hL]) (Steps.refl _) (a := b + i) (argsL := as.map (upV b)) (rest := S.map (upV b)) (lenOf hdesc (by simp [hlen])) (by simp [upV]) (wid_up wdt hwd) (hb C.bys hd) (fun _ _ => ⟨by simp [upV], rfl, hc, hs⟩)
  dsimp only [Pt.U, Pt.locs, Pt.cells, Pt.slots] at X' l' y1 z1 st hQ
  subst l' y1 z1
  obtain ⟨N2, v', H', rfl, RR', hP⟩ := hQ
  refine (h v' H' hP T' _ X' (Fr.app N N2) RR').back fun t k => st.trans ?_
  rw [app_up]
  exact k
theorem go_static {y' : MethodName} {bytes' : ByteArray} {maxL : Nat} {ret' : Option FieldType} {rm : Room} {as : List Value} {idx : Nat} {P : Option Value → List GCell → Prop} {ps : List FieldType} {rt : Option FieldType}
    (hd : Dc bytes pc (.invokestatic idx) 3 nx) (w1 : Jvm.Cond.methodLink y.cls idx y' ∈ W) (w2 : Jvm.Cond.static y' ∈ W) (w5 : Jvm.Cond.code y' bytes' maxL ret' ∈ W) (w6 : Jvm.Cond.initialized y'.cls ∈ W)
    (hy : y'.cls ≠ "java/lang/invoke/MethodHandle" ∧ y'.cls ≠ "java/lang/invoke/VarHandle") (hdesc : parseMethodDescriptor y'.desc = some ⟨ps, rt⟩) (hlen : as.length = ps.length)
    (M : Met l Z a0 b y' bytes' maxL ret' rm as H P) (hS : S' = as.reverse ++ S) (hL : L.length = nL) (wdt : Nat) (hwd : (S.map Value.category).sum ≤ wdt)
    (hfr : rm.frames + 1 ≤ R.frames) (hlo : wdt + (maxL + 11) + rm.locals ≤ R.locals) (hc : cells + rm.cells ≤ R.cells) (hs : slots + rm.slots ≤ R.slots)
    (h : ∀ v H', P v H' → Go C nx L (v.toList ++ S) H' (cells + rm.cells) (slots + rm.slots)) : Go C pc L S' H cells slots := by
  intro T locs X N RR
  obtain ⟨hd, rfl⟩ := hd
  subst hS
  obtain ⟨_, _, ⟨T', L', k', n'⟩, -, X', ⟨Lc, hQ, l', y1, z1⟩, st⟩ := Jvm.LawKit.callS X C.exec (y := y') C.own (mvT C.warm (C.hw _ w1)) (mvT C.warm (C.hw _ w2)) (mvT C.warm (C.hw _ w6)) (mvT C.warm (C.hw _ w5)) hy
    (backOf (W := wdt) (M T.heap RR []) C.warm (C.hw _ w5) (C.hw _ w6) hfr hlo) (g := frm b m pc L (as.reverse ++ S)) rfl (by simp [C.ml, hL]) (argsL := as.map (upV b)) (rest := S.map (upV b)) (lenOf hdesc (by simp [hlen])) (by simp) (wid_up wdt hwd) (hb C.bys hd) (fun _ _ => ⟨by simp, rfl, hc, hs⟩)
  dsimp only [Pt.U, Pt.locs, Pt.cells, Pt.slots] at X' l' y1 z1 st hQ
  subst l' y1 z1
  obtain ⟨N2, v', H', rfl, RR', hP⟩ := hQ
  refine (h v' H' hP T' _ X' (Fr.app N N2) RR').back fun t k => st _ ?_
  rw [app_up]
  exact k
/-! ### the end -/
theorem go_ret {w w' : Value} {t : FieldType} {i : Instr} (hd : Dc bytes pc i 1 nx) (hret : ret = some t) (hn : narrow t (upV b w) = upV b w)
    (hi : (i = .ireturn ∧ (t = .int ∨ t = .boolean ∨ t = .byte ∨ t = .char ∨ t = .short) ∧ ∃ z, w = .int z) ∨ (i = .lreturn ∧ t = .long ∧ ∃ z, w = .long z) ∨ (i = .areturn ∧ t.isReference = true ∧ w.isRef = true))
    (hc : cells ≤ R.cells) (hs : slots ≤ R.slots) (h : Post (some w) H) : Go C pc L (w :: S) H cells slots := by
  intro T locs X N RR
  obtain ⟨fs, hr, hrun, hended, hW, hsame⟩ := X.leave (v := some (upV b w)) (fun q => by rw [C.rets, hret] at q; cases q) C.nolock
  refine ⟨_, _, retOut X C.exec (t := t) (i := i) (C.rets.trans hret) hn ?_ (hb C.bys hd.1) hr, hrun, hended, _, locs, rfl, ⟨N, some w, H, rfl, RR, h⟩, ⟨_, rfl⟩, hW, hsame.mono hc hs⟩
  rcases hi with ⟨h1, h2, z, rfl⟩ | ⟨h1, h2, z, rfl⟩ | ⟨h1, h2, h3⟩
  · exact Or.inl ⟨h1, h2, z, rfl⟩
  · exact Or.inr (Or.inl ⟨h1, h2, z, rfl⟩)
  · exact Or.inr (Or.inr (Or.inr (Or.inr ⟨h1, h2, (isRef_up b w).trans h3⟩)))
theorem go_ireturn {x : Int32} (hd : Dc bytes pc .ireturn 1 nx) (hret : ret = some .int) (hc : cells ≤ R.cells) (hs : slots ≤ R.slots) (h : Post (some (.int x)) H) : Go C pc L (.int x :: S) H cells slots :=
  go_ret (w' := .null) hd hret rfl (Or.inl ⟨rfl, Or.inl rfl, _, rfl⟩) hc hs h
theorem go_zreturn {x : Int32} (hd : Dc bytes pc .ireturn 1 nx) (hret : ret = some .boolean) (hz : x &&& 1 = x) (hc : cells ≤ R.cells) (hs : slots ≤ R.slots) (h : Post (some (.int x)) H) : Go C pc L (.int x :: S) H cells slots :=
  go_ret (w' := .null) hd hret (by show Value.int (x &&& 1) = .int x; rw [hz]) (Or.inl ⟨rfl, Or.inr (Or.inl rfl), _, rfl⟩) hc hs h
theorem go_breturn {x : Int32} (hd : Dc bytes pc .ireturn 1 nx) (hret : ret = some .byte) (hz : x.toInt8.toInt32 = x) (hc : cells ≤ R.cells) (hs : slots ≤ R.slots) (h : Post (some (.int x)) H) : Go C pc L (.int x :: S) H cells slots :=
  go_ret (w' := .null) hd hret (by show Value.int (x.toInt8.toInt32) = .int x; rw [hz]) (Or.inl ⟨rfl, Or.inr (Or.inr (Or.inl rfl)), _, rfl⟩) hc hs h
theorem go_lreturn {x : Int64} (hd : Dc bytes pc .lreturn 1 nx) (hret : ret = some .long) (hc : cells ≤ R.cells) (hs : slots ≤ R.slots) (h : Post (some (.long x)) H) : Go C pc L (.long x :: S) H cells slots :=
  go_ret (w' := .null) hd hret rfl (Or.inr (Or.inl ⟨rfl, rfl, _, rfl⟩)) hc hs h
theorem narrow_ref {t : FieldType} (ht : t.isReference = true) (v : Value) : narrow t v = v := by cases t <;> first | rfl | cases ht
theorem go_areturn {v : Value} {t : FieldType} (hd : Dc bytes pc .areturn 1 nx) (hret : ret = some t) (ht : t.isReference = true) (hv : v.isRef = true) (hc : cells ≤ R.cells) (hs : slots ≤ R.slots) (h : Post (some v) H) : Go C pc L (v :: S) H cells slots :=
  go_ret (w' := .null) hd hret (narrow_ref ht _) (Or.inr (Or.inr ⟨rfl, ht, hv⟩)) hc hs h
theorem go_return (hd : Dc bytes pc .return_ 1 nx) (hret : ret = none) (hc : cells ≤ R.cells) (hs : slots ≤ R.slots) (h : Post none H) : Go C pc L [] H cells slots := by
  intro T locs X N RR
  obtain ⟨fs, hr, hrun, hended, hW, hsame⟩ := X.leave (v := none) (fun _ => rfl) C.nolock
  exact ⟨_, _, X.returnOut C.exec (C.rets.trans hret) (hb C.bys hd.1) hr, hrun, hended, _, locs, rfl, ⟨N, none, H, rfl, RR, h⟩, ⟨_, rfl⟩, hW, hsame.mono hc hs⟩
def fillL : List Value → List Slot
  | [] => []
  | v :: vs => if v.category = 2 then .val v :: .second :: fillL vs else .val v :: fillL vs
def locs0 (as : List Value) (nL : Nat) : List Slot := fillL as ++ List.replicate (nL - (fillL as).length) .unset
theorem fill_foldl (as : List Value) : ∀ acc : Array Slot, (as.map (upV b)).foldl (fun acc v => if v.category = 2 then (acc.push (.val v)).push .second else acc.push (.val v)) acc = acc ++ ((fillL as).map (upS b)).toArray := by
  induction as with
  | nil => intro acc; simp [fillL]
  | cons v vs ih =>
    intro acc
    simp only [List.map_cons, List.foldl_cons, cat_up, fillL]
    by_cases q : v.category = 2
    · rw [if_pos q, if_pos q, ih]
      simp [upS, ← Array.toList_inj]
    · rw [if_neg q, if_neg q, ih]
      simp [upS, ← Array.toList_inj]
theorem entry_up (m : MethodId) (as : List Value) (nL : Nat) : entryFrame m (as.map (upV b)).toArray nL = frm b m 0 (locs0 as nL) [] := by
  have e := fill_foldl (b := b) as #[]
  have e1 : argsToLocals (as.map (upV b)).toArray nL = ((locs0 as nL).map (upS b)).toArray := by
    simp only [argsToLocals, List.foldl_toArray', List.size_toArray, List.foldl_toArray]
    rw [e]
    simp [locs0, upS, ← Array.toList_inj]
  simp [entryFrame, e1]
end Walk
theorem Met.of_go {l : Launch} {Z : State} {a0 : Array Value} {W : List Jvm.Cond} {b : Nat} {y : MethodName} {bytes : ByteArray} {nL : Nat} {ret : Option FieldType} {rm : Room} {as : List Value} {H : List GCell} {Post : Option Value → List GCell → Prop} (hw : ∀ d ∈ W, d.before a0 Z = true) (hp : plainFor y = true) {L0 : List Slot} (hL : locs0 as nL = L0)
    (body : ∀ p e s m args below meth c (C : Cx p l e rm s m args below meth c Z a0 W b y bytes nL ret Post), Go C 0 L0 [] H 0 0) : Met l Z a0 b y bytes nL ret rm as H Post := by
  intro h RR ws
  refine MetFree.of_bodySF hp hisR ?_
  intro p e s m args below meth c s₁ Bd hml0 hP hK
  obtain ⟨rfl, hZ, hh⟩ := hP
  have C : Cx p l e rm s m (as.map (upV b)).toArray below meth c Z a0 W b y bytes nL ret Post := ⟨Bd.exec, hZ, findClass_of_methodNamed Bd.named, Bd.bytes, hml0, Bd.returns, Bd.notSynchronized, (name_of_methodNamed Bd.named Bd.method).1, hw⟩
  have X0 : Stand p l e rm s m (as.map (upV b)).toArray below meth c s₁ [] 0 0 := Stand.of_body Bd
  have e0 : s₁.heap = h := by rw [← hh, Bd.state]; rfl
  have g := body p e s m _ below meth c C s₁ [] X0 (Fr.nil b) (by rw [e0]; exact RR)
  obtain ⟨s₂, o, hs, hr⟩ := g
  refine ⟨s₂, o, ?_, hr⟩
  rw [entry_up, hL]
  exact hs
section Places
variable {p : Program} {l : Launch} {e : Env} {R : Room} {s : State} {m : MethodId} {args : Array Value} {below : List Frame} {meth : Method} {c : Code} {Z : State} {a0 : Array Value} {W : List Jvm.Cond} {b : Nat} {y : MethodName} {bytes : ByteArray} {nL : Nat} {ret : Option FieldType} {Post : Option Value → List GCell → Prop} {C : Cx p l e R s m args below meth c Z a0 W b y bytes nL ret Post} {pc nx tg : Nat} {L L' : List Slot} {S S' : List Value} {H H' : List GCell} {cells slots : Nat}
theorem go_astore_2 {s0 s1 o : Slot} {v : Value} (hd : Dc bytes pc (.astore_n 2) 1 nx) (ho : oneS o = true) (hv : v.isRef = true) (h : Go C nx (s0 :: s1 :: .val v :: L) S H cells slots) : Go C pc (s0 :: s1 :: o :: L) (v :: S) H cells slots := go_astoreN hd rfl ho hv h
theorem go_istore_3 {s0 s1 s2 o : Slot} {x : Int32} (hd : Dc bytes pc (.istore_n 3) 1 nx) (ho : oneS o = true) (h : Go C nx (s0 :: s1 :: s2 :: .val (.int x) :: L) S H cells slots) : Go C pc (s0 :: s1 :: s2 :: o :: L) (.int x :: S) H cells slots := go_istoreN hd rfl ho h
theorem go_iinc_3 {s0 s1 s2 : Slot} {x z : Int32} {i : Int} (hd : Dc bytes pc (.iinc 3 i) 3 nx) (hz : Int32.ofInt i = z) (h : Go C nx (s0 :: s1 :: s2 :: .val (.int (x + z)) :: L) S H cells slots) : Go C pc (s0 :: s1 :: s2 :: .val (.int x) :: L) S H cells slots := go_iinc hd rfl hz h
theorem go_istoreX_6 {s0 s1 s2 s3 s4 s5 o : Slot} {x : Int32} (hd : Dc bytes pc (.istore 6) 2 nx) (ho : oneS o = true) (h : ∀ x', x' = x → Go C nx (s0 :: s1 :: s2 :: s3 :: s4 :: s5 :: .val (.int x') :: L) S H cells slots) : Go C pc (s0 :: s1 :: s2 :: s3 :: s4 :: s5 :: o :: L) (.int x :: S) H cells slots := go_istore hd rfl ho (h x rfl)
theorem go_istoreX_7 {s0 s1 s2 s3 s4 s5 s6 o : Slot} {x : Int32} (hd : Dc bytes pc (.istore 7) 2 nx) (ho : oneS o = true) (h : ∀ x', x' = x → Go C nx (s0 :: s1 :: s2 :: s3 :: s4 :: s5 :: s6 :: .val (.int x') :: L) S H cells slots) : Go C pc (s0 :: s1 :: s2 :: s3 :: s4 :: s5 :: s6 :: o :: L) (.int x :: S) H cells slots := go_istore hd rfl ho (h x rfl)
theorem go_istoreX_8 {s0 s1 s2 s3 s4 s5 s6 s7 o : Slot} {x : Int32} (hd : Dc bytes pc (.istore 8) 2 nx) (ho : oneS o = true) (h : ∀ x', x' = x → Go C nx (s0 :: s1 :: s2 :: s3 :: s4 :: s5 :: s6 :: s7 :: .val (.int x') :: L) S H cells slots) : Go C pc (s0 :: s1 :: s2 :: s3 :: s4 :: s5 :: s6 :: s7 :: o :: L) (.int x :: S) H cells slots := go_istore hd rfl ho (h x rfl)
theorem go_istoreX_9 {s0 s1 s2 s3 s4 s5 s6 s7 s8 o : Slot} {x : Int32} (hd : Dc bytes pc (.istore 9) 2 nx) (ho : oneS o = true) (h : ∀ x', x' = x → Go C nx (s0 :: s1 :: s2 :: s3 :: s4 :: s5 :: s6 :: s7 :: s8 :: .val (.int x') :: L) S H cells slots) : Go C pc (s0 :: s1 :: s2 :: s3 :: s4 :: s5 :: s6 :: s7 :: s8 :: o :: L) (.int x :: S) H cells slots := go_istore hd rfl ho (h x rfl)
theorem go_istoreX_10 {s0 s1 s2 s3 s4 s5 s6 s7 s8 s9 o : Slot} {x : Int32} (hd : Dc bytes pc (.istore 10) 2 nx) (ho : oneS o = true) (h : ∀ x', x' = x → Go C nx (s0 :: s1 :: s2 :: s3 :: s4 :: s5 :: s6 :: s7 :: s8 :: s9 :: .val (.int x') :: L) S H cells slots) : Go C pc (s0 :: s1 :: s2 :: s3 :: s4 :: s5 :: s6 :: s7 :: s8 :: s9 :: o :: L) (.int x :: S) H cells slots := go_istore hd rfl ho (h x rfl)
theorem go_istoreX_11 {s0 s1 s2 s3 s4 s5 s6 s7 s8 s9 s10 o : Slot} {x : Int32} (hd : Dc bytes pc (.istore 11) 2 nx) (ho : oneS o = true) (h : ∀ x', x' = x → Go C nx (s0 :: s1 :: s2 :: s3 :: s4 :: s5 :: s6 :: s7 :: s8 :: s9 :: s10 :: .val (.int x') :: L) S H cells slots) : Go C pc (s0 :: s1 :: s2 :: s3 :: s4 :: s5 :: s6 :: s7 :: s8 :: s9 :: s10 :: o :: L) (.int x :: S) H cells slots := go_istore hd rfl ho (h x rfl)
theorem go_istoreX_12 {s0 s1 s2 s3 s4 s5 s6 s7 s8 s9 s10 s11 o : Slot} {x : Int32} (hd : Dc bytes pc (.istore 12) 2 nx) (ho : oneS o = true) (h : ∀ x', x' = x → Go C nx (s0 :: s1 :: s2 :: s3 :: s4 :: s5 :: s6 :: s7 :: s8 :: s9 :: s10 :: s11 :: .val (.int x') :: L) S H cells slots) : Go C pc (s0 :: s1 :: s2 :: s3 :: s4 :: s5 :: s6 :: s7 :: s8 :: s9 :: s10 :: s11 :: o :: L) (.int x :: S) H cells slots := go_istore hd rfl ho (h x rfl)
theorem go_astore_13 {s0 s1 s2 s3 s4 s5 s6 s7 s8 s9 s10 s11 s12 o : Slot} {v : Value} (hd : Dc bytes pc (.astore 13) 2 nx) (ho : oneS o = true) (hv : v.isRef = true) (h : Go C nx (s0 :: s1 :: s2 :: s3 :: s4 :: s5 :: s6 :: s7 :: s8 :: s9 :: s10 :: s11 :: s12 :: .val v :: L) S H cells slots) : Go C pc (s0 :: s1 :: s2 :: s3 :: s4 :: s5 :: s6 :: s7 :: s8 :: s9 :: s10 :: s11 :: s12 :: o :: L) (v :: S) H cells slots := go_astore hd rfl ho hv h
theorem go_astore_14 {s0 s1 s2 s3 s4 s5 s6 s7 s8 s9 s10 s11 s12 s13 o : Slot} {v : Value} (hd : Dc bytes pc (.astore 14) 2 nx) (ho : oneS o = true) (hv : v.isRef = true) (h : Go C nx (s0 :: s1 :: s2 :: s3 :: s4 :: s5 :: s6 :: s7 :: s8 :: s9 :: s10 :: s11 :: s12 :: s13 :: .val v :: L) S H cells slots) : Go C pc (s0 :: s1 :: s2 :: s3 :: s4 :: s5 :: s6 :: s7 :: s8 :: s9 :: s10 :: s11 :: s12 :: s13 :: o :: L) (v :: S) H cells slots := go_astore hd rfl ho hv h
theorem go_istoreX_15 {s0 s1 s2 s3 s4 s5 s6 s7 s8 s9 s10 s11 s12 s13 s14 o : Slot} {x : Int32} (hd : Dc bytes pc (.istore 15) 2 nx) (ho : oneS o = true) (h : ∀ x', x' = x → Go C nx (s0 :: s1 :: s2 :: s3 :: s4 :: s5 :: s6 :: s7 :: s8 :: s9 :: s10 :: s11 :: s12 :: s13 :: s14 :: .val (.int x') :: L) S H cells slots) : Go C pc (s0 :: s1 :: s2 :: s3 :: s4 :: s5 :: s6 :: s7 :: s8 :: s9 :: s10 :: s11 :: s12 :: s13 :: s14 :: o :: L) (.int x :: S) H cells slots := go_istore hd rfl ho (h x rfl)
theorem go_specialV_0 {y' : MethodName} {bytes' : ByteArray} {maxL : Nat} {rm : Room} {i idx : Nat} {P : List GCell → Prop} {ps : List FieldType} {rt : Option FieldType} (hn : y'.name = "<init>") (hd : Dc bytes pc (.invokespecial idx) 3 nx) (w1 : Jvm.Cond.methodLink y.cls idx y' ∈ W) (w4 : Jvm.Cond.instanceMethod y' ∈ W) (w5 : Jvm.Cond.code y' bytes' maxL none ∈ W) (w6 : Jvm.Cond.initialized y'.cls ∈ W) (hy : y'.cls ≠ "java/lang/invoke/MethodHandle" ∧ y'.cls ≠ "java/lang/invoke/VarHandle") (hdesc : parseMethodDescriptor y'.desc = some ⟨ps, rt⟩) (hlen : ps.length = 0)
    (M : Met l Z a0 b y' bytes' maxL none rm (.ref i :: []) H (fun v H' => v = none ∧ P H')) (hL : L.length = nL) (wdt : Nat) (hwd : (S.map Value.category).sum = wdt) (hfr : rm.frames + 1 ≤ R.frames) (hlo : wdt + (maxL + 11) + rm.locals ≤ R.locals) (hc : cells + rm.cells ≤ R.cells) (hs : slots + rm.slots ≤ R.slots)
    (h : ∀ H', P H' → Go C nx L S H' (cells + rm.cells) (slots + rm.slots)) : Go C pc L (.ref i :: S) H cells slots :=
  go_special hn hd w1 w4 w5 w6 hy hdesc (as := []) (by rw [hlen]; rfl) M rfl hL wdt (Nat.le_of_eq hwd) hfr hlo hc hs (fun v H' q => by obtain ⟨rfl, q⟩ := q; exact h H' q)
theorem go_virtual_1 {a1 : Value} {y' : MethodName} {bytes' : ByteArray} {maxL : Nat} {ret' : Option FieldType} {rm : Room} {i idx : Nat} {Cn : String} {fs : List (String × String × Value)} {P : Value → List GCell → Prop} {ps : List FieldType} {rt : Option FieldType} (hd : Dc bytes pc (.invokevirtual idx) 3 nx) (w1 : Jvm.Cond.methodLink y.cls idx y' ∈ W) (w2 : Jvm.Cond.declares y' ∈ W) (w3 : Jvm.Cond.selects Cn y' y' ∈ W) (w4 : Jvm.Cond.instanceMethod y' ∈ W) (w5 : Jvm.Cond.code y' bytes' maxL ret' ∈ W) (w6 : Jvm.Cond.initialized y'.cls ∈ W) (hy : y'.cls ≠ "java/lang/invoke/MethodHandle" ∧ y'.cls ≠ "java/lang/invoke/VarHandle") (hdesc : parseMethodDescriptor y'.desc = some ⟨ps, rt⟩) (hlen : ps.length = 1)
    (M : Met l Z a0 b y' bytes' maxL ret' rm (.ref i :: [a1]) H (fun v H' => ∃ w, v = some w ∧ P w H')) (hH : H[i]? = some (ob Cn fs)) (hL : L.length = nL) (wdt : Nat) (hwd : (S.map Value.category).sum = wdt) (hfr : rm.frames + 1 ≤ R.frames) (hlo : wdt + (maxL + 11) + rm.locals ≤ R.locals) (hc : cells + rm.cells ≤ R.cells) (hs : slots + rm.slots ≤ R.slots)
    (h : ∀ w H', P w H' → Go C nx L (w :: S) H' (cells + rm.cells) (slots + rm.slots)) : Go C pc L (a1 :: .ref i :: S) H cells slots :=
  go_virtual hd w1 w2 w3 w4 w5 w6 hy hdesc (as := [a1]) (by rw [hlen]; rfl) M hH rfl hL wdt (Nat.le_of_eq hwd) hfr hlo hc hs (fun v H' q => by obtain ⟨w, rfl, q⟩ := q; exact h w H' q)
theorem go_virtualV_3 {a1 a2 a3 : Value} {y' : MethodName} {bytes' : ByteArray} {maxL : Nat} {ret' : Option FieldType} {rm : Room} {i idx : Nat} {Cn : String} {fs : List (String × String × Value)} {P : List GCell → Prop} {ps : List FieldType} {rt : Option FieldType} (hd : Dc bytes pc (.invokevirtual idx) 3 nx) (w1 : Jvm.Cond.methodLink y.cls idx y' ∈ W) (w2 : Jvm.Cond.declares y' ∈ W) (w3 : Jvm.Cond.selects Cn y' y' ∈ W) (w4 : Jvm.Cond.instanceMethod y' ∈ W) (w5 : Jvm.Cond.code y' bytes' maxL ret' ∈ W) (w6 : Jvm.Cond.initialized y'.cls ∈ W) (hy : y'.cls ≠ "java/lang/invoke/MethodHandle" ∧ y'.cls ≠ "java/lang/invoke/VarHandle") (hdesc : parseMethodDescriptor y'.desc = some ⟨ps, rt⟩) (hlen : ps.length = 3)
    (M : Met l Z a0 b y' bytes' maxL ret' rm (.ref i :: [a1, a2, a3]) H (fun v H' => v = none ∧ P H')) (hH : H[i]? = some (ob Cn fs)) (hL : L.length = nL) (wdt : Nat) (hwd : (S.map Value.category).sum = wdt) (hfr : rm.frames + 1 ≤ R.frames) (hlo : wdt + (maxL + 11) + rm.locals ≤ R.locals) (hc : cells + rm.cells ≤ R.cells) (hs : slots + rm.slots ≤ R.slots)
    (h : ∀ H', P H' → Go C nx L S H' (cells + rm.cells) (slots + rm.slots)) : Go C pc L (a3 :: a2 :: a1 :: .ref i :: S) H cells slots :=
  go_virtual hd w1 w2 w3 w4 w5 w6 hy hdesc (as := [a1, a2, a3]) (by rw [hlen]; rfl) M hH rfl hL wdt (Nat.le_of_eq hwd) hfr hlo hc hs (fun v H' q => by obtain ⟨rfl, q⟩ := q; exact h H' q)
theorem go_static_3 {a1 a2 a3 : Value} {y' : MethodName} {bytes' : ByteArray} {maxL : Nat} {ret' : Option FieldType} {rm : Room} {idx : Nat} {P : Value → List GCell → Prop} {ps : List FieldType} {rt : Option FieldType} (hd : Dc bytes pc (.invokestatic idx) 3 nx) (w1 : Jvm.Cond.methodLink y.cls idx y' ∈ W) (w2 : Jvm.Cond.static y' ∈ W) (w5 : Jvm.Cond.code y' bytes' maxL ret' ∈ W) (w6 : Jvm.Cond.initialized y'.cls ∈ W) (hy : y'.cls ≠ "java/lang/invoke/MethodHandle" ∧ y'.cls ≠ "java/lang/invoke/VarHandle") (hdesc : parseMethodDescriptor y'.desc = some ⟨ps, rt⟩) (hlen : ps.length = 3)
    (M : Met l Z a0 b y' bytes' maxL ret' rm [a1, a2, a3] H (fun v H' => ∃ w, v = some w ∧ P w H')) (hL : L.length = nL) (wdt : Nat) (hwd : (S.map Value.category).sum = wdt) (hfr : rm.frames + 1 ≤ R.frames) (hlo : wdt + (maxL + 11) + rm.locals ≤ R.locals) (hc : cells + rm.cells ≤ R.cells) (hs : slots + rm.slots ≤ R.slots)
    (h : ∀ w H', P w H' → Go C nx L (w :: S) H' (cells + rm.cells) (slots + rm.slots)) : Go C pc L (a3 :: a2 :: a1 :: S) H cells slots :=
  go_static hd w1 w2 w5 w6 hy hdesc (as := [a1, a2, a3]) (by rw [hlen]; rfl) M rfl hL wdt (Nat.le_of_eq hwd) hfr hlo hc hs (fun v H' q => by obtain ⟨w, rfl, q⟩ := q; exact h w H' q)
end Places
end Jvm.GoKit

namespace Jvm.Pilot.@@N@@
open Jvm Jvm.ClassFile Sem Op Lib Jvm.Free Jvm.Stand Jvm.LawKit Jvm.RoadKit Bundle Jvm.GoKit Jvm.Pilot.@@N@@.Jvm.D
theorem e0_0 : Dc code 0 (.iload_n 0) 1 1 := ⟨at_0, rfl⟩
theorem e0_1 : Dc code 1 (.bipush 15) 2 3 := ⟨at_1, rfl⟩
theorem e0_3 : Dc code 3 (.iand) 1 4 := ⟨at_3, rfl⟩
theorem e0_4 : Dc code 4 (.iconst 5) 1 5 := ⟨at_4, rfl⟩
theorem e0_5 : Dc code 5 (.irem) 1 6 := ⟨at_5, rfl⟩
theorem e0_6 : Dc code 6 (.istore 6) 2 8 := ⟨at_6, rfl⟩
theorem e0_8 : Dc code 8 (.bipush 8) 2 10 := ⟨at_8, rfl⟩
theorem e0_10 : Dc code 10 (.iload_n 0) 1 11 := ⟨at_10, rfl⟩
theorem e0_11 : Dc code 11 (.iconst 4) 1 12 := ⟨at_11, rfl⟩
theorem e0_12 : Dc code 12 (.iushr) 1 13 := ⟨at_12, rfl⟩
theorem e0_13 : Dc code 13 (.bipush 7) 2 15 := ⟨at_13, rfl⟩
theorem e0_15 : Dc code 15 (.iand) 1 16 := ⟨at_15, rfl⟩
theorem e0_16 : Dc code 16 (.iadd) 1 17 := ⟨at_16, rfl⟩
theorem e0_17 : Dc code 17 (.istore 7) 2 19 := ⟨at_17, rfl⟩
theorem e0_19 : Dc code 19 (.iload_n 1) 1 20 := ⟨at_19, rfl⟩
theorem e0_20 : Dc code 20 (.bipush 7) 2 22 := ⟨at_20, rfl⟩
theorem e0_22 : Dc code 22 (.iand) 1 23 := ⟨at_22, rfl⟩
theorem e0_23 : Dc code 23 (.istore 8) 2 25 := ⟨at_23, rfl⟩
theorem e0_25 : Dc code 25 (.iload_n 2) 1 26 := ⟨at_25, rfl⟩
theorem e0_26 : Dc code 26 (.bipush 7) 2 28 := ⟨at_26, rfl⟩
theorem e0_28 : Dc code 28 (.iand) 1 29 := ⟨at_28, rfl⟩
theorem e0_29 : Dc code 29 (.istore 9) 2 31 := ⟨at_29, rfl⟩
theorem e0_31 : Dc code 31 (.iload_n 3) 1 32 := ⟨at_31, rfl⟩
theorem e0_32 : Dc code 32 (.bipush 7) 2 34 := ⟨at_32, rfl⟩
theorem e0_34 : Dc code 34 (.iand) 1 35 := ⟨at_34, rfl⟩
theorem e0_35 : Dc code 35 (.istore 10) 2 37 := ⟨at_35, rfl⟩
theorem e0_37 : Dc code 37 (.iload 4) 2 39 := ⟨at_37, rfl⟩
theorem e0_39 : Dc code 39 (.bipush 7) 2 41 := ⟨at_39, rfl⟩
theorem e0_41 : Dc code 41 (.iand) 1 42 := ⟨at_41, rfl⟩
theorem e0_42 : Dc code 42 (.istore 11) 2 44 := ⟨at_42, rfl⟩
theorem e0_44 : Dc code 44 (.iload 5) 2 46 := ⟨at_44, rfl⟩
theorem e0_46 : Dc code 46 (.ldc 7) 2 48 := ⟨at_46, rfl⟩
theorem e0_48 : Dc code 48 (.iand) 1 49 := ⟨at_48, rfl⟩
theorem e0_49 : Dc code 49 (.iload 7) 2 51 := ⟨at_49, rfl⟩
theorem e0_51 : Dc code 51 (.irem) 1 52 := ⟨at_51, rfl⟩
theorem e0_52 : Dc code 52 (.istore 12) 2 54 := ⟨at_52, rfl⟩
theorem e0_54 : Dc code 54 (.new 8) 3 57 := ⟨at_54, rfl⟩
theorem e0_57 : Dc code 57 (.dup) 1 58 := ⟨at_57, rfl⟩
theorem e0_58 : Dc code 58 (.invokespecial 10) 3 61 := ⟨at_58, rfl⟩
theorem e0_61 : Dc code 61 (.astore 13) 2 63 := ⟨at_61, rfl⟩
theorem e0_63 : Dc code 63 (.iload 6) 2 65 := ⟨at_63, rfl⟩
theorem e0_65 : Dc code 65 (.ifCond .le 15) 3 68 := ⟨at_65, rfl⟩
theorem e0_68 : Dc code 68 (.aload 13) 2 70 := ⟨at_68, rfl⟩
theorem e0_70 : Dc code 70 (.iload_n 1) 1 71 := ⟨at_70, rfl⟩
theorem e0_71 : Dc code 71 (.iconst 3) 1 72 := ⟨at_71, rfl⟩
theorem e0_72 : Dc code 72 (.iushr) 1 73 := ⟨at_72, rfl⟩
theorem e0_73 : Dc code 73 (.iload 5) 2 75 := ⟨at_73, rfl⟩
theorem e0_75 : Dc code 75 (.iload 8) 2 77 := ⟨at_75, rfl⟩
theorem e0_77 : Dc code 77 (.invokevirtual 11) 3 80 := ⟨at_77, rfl⟩
theorem e0_80 : Dc code 80 (.iload 6) 2 82 := ⟨at_80, rfl⟩
theorem e0_82 : Dc code 82 (.iconst 1) 1 83 := ⟨at_82, rfl⟩
theorem e0_83 : Dc code 83 (.if_icmp .le 14) 3 86 := ⟨at_83, rfl⟩
theorem e0_86 : Dc code 86 (.aload 13) 2 88 := ⟨at_86, rfl⟩
theorem e0_88 : Dc code 88 (.iload_n 2) 1 89 := ⟨at_88, rfl⟩
theorem e0_89 : Dc code 89 (.iconst 3) 1 90 := ⟨at_89, rfl⟩
theorem e0_90 : Dc code 90 (.iushr) 1 91 := ⟨at_90, rfl⟩
theorem e0_91 : Dc code 91 (.iload_n 1) 1 92 := ⟨at_91, rfl⟩
theorem e0_92 : Dc code 92 (.iload 9) 2 94 := ⟨at_92, rfl⟩
theorem e0_94 : Dc code 94 (.invokevirtual 11) 3 97 := ⟨at_94, rfl⟩
theorem e0_97 : Dc code 97 (.iload 6) 2 99 := ⟨at_97, rfl⟩
theorem e0_99 : Dc code 99 (.iconst 2) 1 100 := ⟨at_99, rfl⟩
theorem e0_100 : Dc code 100 (.if_icmp .le 14) 3 103 := ⟨at_100, rfl⟩
theorem e0_103 : Dc code 103 (.aload 13) 2 105 := ⟨at_103, rfl⟩
theorem e0_105 : Dc code 105 (.iload_n 3) 1 106 := ⟨at_105, rfl⟩
theorem e0_106 : Dc code 106 (.iconst 3) 1 107 := ⟨at_106, rfl⟩
theorem e0_107 : Dc code 107 (.iushr) 1 108 := ⟨at_107, rfl⟩
theorem e0_108 : Dc code 108 (.iload_n 2) 1 109 := ⟨at_108, rfl⟩
theorem e0_109 : Dc code 109 (.iload 10) 2 111 := ⟨at_109, rfl⟩
theorem e0_111 : Dc code 111 (.invokevirtual 11) 3 114 := ⟨at_111, rfl⟩
theorem e0_114 : Dc code 114 (.iload 6) 2 116 := ⟨at_114, rfl⟩
theorem e0_116 : Dc code 116 (.iconst 3) 1 117 := ⟨at_116, rfl⟩
theorem e0_117 : Dc code 117 (.if_icmp .le 15) 3 120 := ⟨at_117, rfl⟩
theorem e0_120 : Dc code 120 (.aload 13) 2 122 := ⟨at_120, rfl⟩
theorem e0_122 : Dc code 122 (.iload 4) 2 124 := ⟨at_122, rfl⟩
theorem e0_124 : Dc code 124 (.iconst 3) 1 125 := ⟨at_124, rfl⟩
theorem e0_125 : Dc code 125 (.iushr) 1 126 := ⟨at_125, rfl⟩
theorem e0_126 : Dc code 126 (.iload_n 3) 1 127 := ⟨at_126, rfl⟩
theorem e0_127 : Dc code 127 (.iload 11) 2 129 := ⟨at_127, rfl⟩
theorem e0_129 : Dc code 129 (.invokevirtual 11) 3 132 := ⟨at_129, rfl⟩
theorem e0_132 : Dc code 132 (.aload 13) 2 134 := ⟨at_132, rfl⟩
theorem e0_134 : Dc code 134 (.iload 7) 2 136 := ⟨at_134, rfl⟩
theorem e0_136 : Dc code 136 (.invokevirtual 15) 3 139 := ⟨at_136, rfl⟩
theorem e0_139 : Dc code 139 (.astore 14) 2 141 := ⟨at_139, rfl⟩
theorem e0_141 : Dc code 141 (.iload 6) 2 143 := ⟨at_141, rfl⟩
theorem e0_143 : Dc code 143 (.ifCond .le 7) 3 146 := ⟨at_143, rfl⟩
theorem e0_146 : Dc code 146 (.iconst 1) 1 147 := ⟨at_146, rfl⟩
theorem e0_147 : Dc code 147 (.goto 4) 3 150 := ⟨at_147, rfl⟩
theorem e0_150 : Dc code 150 (.iconst 0) 1 151 := ⟨at_150, rfl⟩
theorem e0_151 : Dc code 151 (.iload 8) 2 153 := ⟨at_151, rfl⟩
theorem e0_153 : Dc code 153 (.iload 12) 2 155 := ⟨at_153, rfl⟩
theorem e0_155 : Dc code 155 (.invokestatic 19) 3 158 := ⟨at_155, rfl⟩
theorem e0_158 : Dc code 158 (.iload 6) 2 160 := ⟨at_158, rfl⟩
theorem e0_160 : Dc code 160 (.iconst 1) 1 161 := ⟨at_160, rfl⟩
theorem e0_161 : Dc code 161 (.if_icmp .le 7) 3 164 := ⟨at_161, rfl⟩
theorem e0_164 : Dc code 164 (.iconst 1) 1 165 := ⟨at_164, rfl⟩
theorem e0_165 : Dc code 165 (.goto 4) 3 168 := ⟨at_165, rfl⟩
theorem e0_168 : Dc code 168 (.iconst 0) 1 169 := ⟨at_168, rfl⟩
theorem e0_169 : Dc code 169 (.iload 9) 2 171 := ⟨at_169, rfl⟩
theorem e0_171 : Dc code 171 (.iload 12) 2 173 := ⟨at_171, rfl⟩
theorem e0_173 : Dc code 173 (.invokestatic 19) 3 176 := ⟨at_173, rfl⟩
theorem e0_176 : Dc code 176 (.iadd) 1 177 := ⟨at_176, rfl⟩
theorem e0_177 : Dc code 177 (.iload 6) 2 179 := ⟨at_177, rfl⟩
theorem e0_179 : Dc code 179 (.iconst 2) 1 180 := ⟨at_179, rfl⟩
theorem e0_180 : Dc code 180 (.if_icmp .le 7) 3 183 := ⟨at_180, rfl⟩
theorem e0_183 : Dc code 183 (.iconst 1) 1 184 := ⟨at_183, rfl⟩
theorem e0_184 : Dc code 184 (.goto 4) 3 187 := ⟨at_184, rfl⟩
theorem e0_187 : Dc code 187 (.iconst 0) 1 188 := ⟨at_187, rfl⟩
theorem e0_188 : Dc code 188 (.iload 10) 2 190 := ⟨at_188, rfl⟩
theorem e0_190 : Dc code 190 (.iload 12) 2 192 := ⟨at_190, rfl⟩
theorem e0_192 : Dc code 192 (.invokestatic 19) 3 195 := ⟨at_192, rfl⟩
theorem e0_195 : Dc code 195 (.iadd) 1 196 := ⟨at_195, rfl⟩
theorem e0_196 : Dc code 196 (.iload 6) 2 198 := ⟨at_196, rfl⟩
theorem e0_198 : Dc code 198 (.iconst 3) 1 199 := ⟨at_198, rfl⟩
theorem e0_199 : Dc code 199 (.if_icmp .le 7) 3 202 := ⟨at_199, rfl⟩
theorem e0_202 : Dc code 202 (.iconst 1) 1 203 := ⟨at_202, rfl⟩
theorem e0_203 : Dc code 203 (.goto 4) 3 206 := ⟨at_203, rfl⟩
theorem e0_206 : Dc code 206 (.iconst 0) 1 207 := ⟨at_206, rfl⟩
theorem e0_207 : Dc code 207 (.iload 11) 2 209 := ⟨at_207, rfl⟩
theorem e0_209 : Dc code 209 (.iload 12) 2 211 := ⟨at_209, rfl⟩
theorem e0_211 : Dc code 211 (.invokestatic 19) 3 214 := ⟨at_211, rfl⟩
theorem e0_214 : Dc code 214 (.iadd) 1 215 := ⟨at_214, rfl⟩
theorem e0_215 : Dc code 215 (.istore 15) 2 217 := ⟨at_215, rfl⟩
theorem e0_217 : Dc code 217 (.aload 14) 2 219 := ⟨at_217, rfl⟩
theorem e0_219 : Dc code 219 (.arraylength) 1 220 := ⟨at_219, rfl⟩
theorem e0_220 : Dc code 220 (.iload 7) 2 222 := ⟨at_220, rfl⟩
theorem e0_222 : Dc code 222 (.if_icmp .ne 17) 3 225 := ⟨at_222, rfl⟩
theorem e0_225 : Dc code 225 (.aload 14) 2 227 := ⟨at_225, rfl⟩
theorem e0_227 : Dc code 227 (.iload 12) 2 229 := ⟨at_227, rfl⟩
theorem e0_229 : Dc code 229 (.iaload) 1 230 := ⟨at_229, rfl⟩
theorem e0_230 : Dc code 230 (.iload 15) 2 232 := ⟨at_230, rfl⟩
theorem e0_232 : Dc code 232 (.if_icmp .ne 7) 3 235 := ⟨at_232, rfl⟩
theorem e0_235 : Dc code 235 (.iconst 1) 1 236 := ⟨at_235, rfl⟩
theorem e0_236 : Dc code 236 (.goto 4) 3 239 := ⟨at_236, rfl⟩
theorem e0_240 : Dc code 240 (.ireturn) 1 241 := ⟨at_240, rfl⟩
theorem e1_0 : Dc prog_33_method_1_code 0 (.aload_n 0) 1 1 := ⟨by decide +kernel, rfl⟩
theorem e1_1 : Dc prog_33_method_1_code 1 (.invokespecial 1) 3 4 := ⟨by decide +kernel, rfl⟩
theorem e1_4 : Dc prog_33_method_1_code 4 (.aload_n 0) 1 5 := ⟨by decide +kernel, rfl⟩
theorem e1_5 : Dc prog_33_method_1_code 5 (.bipush 16) 2 7 := ⟨by decide +kernel, rfl⟩
theorem e1_7 : Dc prog_33_method_1_code 7 (.newarray .int) 2 9 := ⟨by decide +kernel, rfl⟩
theorem e1_9 : Dc prog_33_method_1_code 9 (.putfield 9) 3 12 := ⟨by decide +kernel, rfl⟩
theorem e1_12 : Dc prog_33_method_1_code 12 (.aload_n 0) 1 13 := ⟨by decide +kernel, rfl⟩
theorem e1_13 : Dc prog_33_method_1_code 13 (.bipush 16) 2 15 := ⟨by decide +kernel, rfl⟩
theorem e1_15 : Dc prog_33_method_1_code 15 (.newarray .int) 2 17 := ⟨by decide +kernel, rfl⟩
theorem e1_17 : Dc prog_33_method_1_code 17 (.putfield 13) 3 20 := ⟨by decide +kernel, rfl⟩
theorem e1_20 : Dc prog_33_method_1_code 20 (.aload_n 0) 1 21 := ⟨by decide +kernel, rfl⟩
theorem e1_21 : Dc prog_33_method_1_code 21 (.bipush 16) 2 23 := ⟨by decide +kernel, rfl⟩
theorem e1_23 : Dc prog_33_method_1_code 23 (.newarray .int) 2 25 := ⟨by decide +kernel, rfl⟩
theorem e1_25 : Dc prog_33_method_1_code 25 (.putfield 16) 3 28 := ⟨by decide +kernel, rfl⟩
theorem e1_28 : Dc prog_33_method_1_code 28 (.return_) 1 29 := ⟨by decide +kernel, rfl⟩
theorem e3_0 : Dc prog_33_method_6_code 0 (.iload_n 1) 1 1 := ⟨by decide +kernel, rfl⟩
theorem e3_1 : Dc prog_33_method_6_code 1 (.newarray .int) 2 3 := ⟨by decide +kernel, rfl⟩
theorem e3_3 : Dc prog_33_method_6_code 3 (.astore_n 2) 1 4 := ⟨by decide +kernel, rfl⟩
theorem e3_4 : Dc prog_33_method_6_code 4 (.iconst 0) 1 5 := ⟨by decide +kernel, rfl⟩
theorem e3_5 : Dc prog_33_method_6_code 5 (.istore_n 3) 1 6 := ⟨by decide +kernel, rfl⟩
theorem e3_6 : Dc prog_33_method_6_code 6 (.iload_n 3) 1 7 := ⟨by decide +kernel, rfl⟩
theorem e3_7 : Dc prog_33_method_6_code 7 (.aload_n 0) 1 8 := ⟨by decide +kernel, rfl⟩
theorem e3_8 : Dc prog_33_method_6_code 8 (.getfield 19) 3 11 := ⟨by decide +kernel, rfl⟩
theorem e3_11 : Dc prog_33_method_6_code 11 (.if_icmp .ge 21) 3 14 := ⟨by decide +kernel, rfl⟩
theorem e3_14 : Dc prog_33_method_6_code 14 (.aload_n 2) 1 15 := ⟨by decide +kernel, rfl⟩
theorem e3_15 : Dc prog_33_method_6_code 15 (.aload_n 0) 1 16 := ⟨by decide +kernel, rfl⟩
theorem e3_16 : Dc prog_33_method_6_code 16 (.getfield 16) 3 19 := ⟨by decide +kernel, rfl⟩
theorem e3_19 : Dc prog_33_method_6_code 19 (.iload_n 3) 1 20 := ⟨by decide +kernel, rfl⟩
theorem e3_20 : Dc prog_33_method_6_code 20 (.iaload) 1 21 := ⟨by decide +kernel, rfl⟩
theorem e3_21 : Dc prog_33_method_6_code 21 (.dup2) 1 22 := ⟨by decide +kernel, rfl⟩
theorem e3_22 : Dc prog_33_method_6_code 22 (.iaload) 1 23 := ⟨by decide +kernel, rfl⟩
theorem e3_23 : Dc prog_33_method_6_code 23 (.iconst 1) 1 24 := ⟨by decide +kernel, rfl⟩
theorem e3_24 : Dc prog_33_method_6_code 24 (.iadd) 1 25 := ⟨by decide +kernel, rfl⟩
theorem e3_25 : Dc prog_33_method_6_code 25 (.iastore) 1 26 := ⟨by decide +kernel, rfl⟩
theorem e3_26 : Dc prog_33_method_6_code 26 (.iinc 3 1) 3 29 := ⟨by decide +kernel, rfl⟩
theorem e3_29 : Dc prog_33_method_6_code 29 (.goto (-23)) 3 32 := ⟨by decide +kernel, rfl⟩
theorem e3_32 : Dc prog_33_method_6_code 32 (.aload_n 2) 1 33 := ⟨by decide +kernel, rfl⟩
theorem e3_33 : Dc prog_33_method_6_code 33 (.areturn) 1 34 := ⟨by decide +kernel, rfl⟩
theorem e4_0 : Dc method_3_code 0 (.iload_n 0) 1 1 := ⟨by decide +kernel, rfl⟩
theorem e4_1 : Dc method_3_code 1 (.ifCond .eq 10) 3 4 := ⟨by decide +kernel, rfl⟩
theorem e4_4 : Dc method_3_code 4 (.iload_n 1) 1 5 := ⟨by decide +kernel, rfl⟩
theorem e4_5 : Dc method_3_code 5 (.iload_n 2) 1 6 := ⟨by decide +kernel, rfl⟩
theorem e4_6 : Dc method_3_code 6 (.if_icmp .ne 5) 3 9 := ⟨by decide +kernel, rfl⟩
theorem e4_9 : Dc method_3_code 9 (.iconst 1) 1 10 := ⟨by decide +kernel, rfl⟩
theorem e4_10 : Dc method_3_code 10 (.ireturn) 1 11 := ⟨by decide +kernel, rfl⟩
theorem e4_11 : Dc method_3_code 11 (.iconst 0) 1 12 := ⟨by decide +kernel, rfl⟩
theorem e4_12 : Dc method_3_code 12 (.ireturn) 1 13 := ⟨by decide +kernel, rfl⟩
theorem e5_0 : Dc prog_33_method_2_code 0 (.aload_n 0) 1 1 := ⟨by decide +kernel, rfl⟩
theorem e5_1 : Dc prog_33_method_2_code 1 (.getfield 19) 3 4 := ⟨by decide +kernel, rfl⟩
theorem e5_4 : Dc prog_33_method_2_code 4 (.aload_n 0) 1 5 := ⟨by decide +kernel, rfl⟩
theorem e5_5 : Dc prog_33_method_2_code 5 (.getfield 16) 3 8 := ⟨by decide +kernel, rfl⟩
theorem e5_8 : Dc prog_33_method_2_code 8 (.arraylength) 1 9 := ⟨by decide +kernel, rfl⟩
theorem e5_9 : Dc prog_33_method_2_code 9 (.if_icmp .ne 54) 3 12 := ⟨by decide +kernel, rfl⟩
theorem e5_63 : Dc prog_33_method_2_code 63 (.aload_n 0) 1 64 := ⟨by decide +kernel, rfl⟩
theorem e5_64 : Dc prog_33_method_2_code 64 (.getfield 9) 3 67 := ⟨by decide +kernel, rfl⟩
theorem e5_67 : Dc prog_33_method_2_code 67 (.aload_n 0) 1 68 := ⟨by decide +kernel, rfl⟩
theorem e5_68 : Dc prog_33_method_2_code 68 (.getfield 19) 3 71 := ⟨by decide +kernel, rfl⟩
theorem e5_71 : Dc prog_33_method_2_code 71 (.iload_n 1) 1 72 := ⟨by decide +kernel, rfl⟩
theorem e5_72 : Dc prog_33_method_2_code 72 (.iastore) 1 73 := ⟨by decide +kernel, rfl⟩
theorem e5_73 : Dc prog_33_method_2_code 73 (.aload_n 0) 1 74 := ⟨by decide +kernel, rfl⟩
theorem e5_74 : Dc prog_33_method_2_code 74 (.getfield 13) 3 77 := ⟨by decide +kernel, rfl⟩
theorem e5_77 : Dc prog_33_method_2_code 77 (.aload_n 0) 1 78 := ⟨by decide +kernel, rfl⟩
theorem e5_78 : Dc prog_33_method_2_code 78 (.getfield 19) 3 81 := ⟨by decide +kernel, rfl⟩
theorem e5_81 : Dc prog_33_method_2_code 81 (.iload_n 2) 1 82 := ⟨by decide +kernel, rfl⟩
theorem e5_82 : Dc prog_33_method_2_code 82 (.iastore) 1 83 := ⟨by decide +kernel, rfl⟩
theorem e5_83 : Dc prog_33_method_2_code 83 (.aload_n 0) 1 84 := ⟨by decide +kernel, rfl⟩
theorem e5_84 : Dc prog_33_method_2_code 84 (.getfield 16) 3 87 := ⟨by decide +kernel, rfl⟩
theorem e5_87 : Dc prog_33_method_2_code 87 (.aload_n 0) 1 88 := ⟨by decide +kernel, rfl⟩
theorem e5_88 : Dc prog_33_method_2_code 88 (.getfield 19) 3 91 := ⟨by decide +kernel, rfl⟩
theorem e5_91 : Dc prog_33_method_2_code 91 (.iload_n 3) 1 92 := ⟨by decide +kernel, rfl⟩
theorem e5_92 : Dc prog_33_method_2_code 92 (.iastore) 1 93 := ⟨by decide +kernel, rfl⟩
theorem e5_93 : Dc prog_33_method_2_code 93 (.aload_n 0) 1 94 := ⟨by decide +kernel, rfl⟩
theorem e5_94 : Dc prog_33_method_2_code 94 (.dup) 1 95 := ⟨by decide +kernel, rfl⟩
theorem e5_95 : Dc prog_33_method_2_code 95 (.getfield 19) 3 98 := ⟨by decide +kernel, rfl⟩
theorem e5_98 : Dc prog_33_method_2_code 98 (.iconst 1) 1 99 := ⟨by decide +kernel, rfl⟩
theorem e5_99 : Dc prog_33_method_2_code 99 (.iadd) 1 100 := ⟨by decide +kernel, rfl⟩
theorem e5_100 : Dc prog_33_method_2_code 100 (.putfield 19) 3 103 := ⟨by decide +kernel, rfl⟩
theorem e5_103 : Dc prog_33_method_2_code 103 (.return_) 1 104 := ⟨by decide +kernel, rfl⟩
theorem pf_0 : parseFieldDescriptor "[I" = some (.array .int) := by decide +kernel
theorem pn_1 : plainName "com/example/outliers_into_crowds/outliersintocrowds/schedule/Placement" = true := by first | (simp [plainName, overriddenIn]; done) | decide +kernel
theorem pn_2 : plainName "com/example/outliers_into_crowds/outliersintocrowds/schedule/PlacementCountsPinLaw" = true := by first | (simp [plainName, overriddenIn]; done) | decide +kernel
theorem pf_3 : parseFieldDescriptor "I" = some .int := by decide +kernel
theorem lay_4 {Z : State} {a0 : Array Value} {b : Nat} (hw : ∀ d ∈ tables_1, d.before a0 Z = true) : Laids Z a0 b "com/example/outliers_into_crowds/outliersintocrowds/schedule/Placement" [("ranks", "[I", .null), ("slots", "[I", .null), ("sizes", "[I", .null), ("count", "I", .int 0)] := ⟨⟨Or.inl (hw _ (wd 12 rfl)), _, pf_0, rfl⟩, ⟨⟨Or.inl (hw _ (wd 14 rfl)), _, pf_0, rfl⟩, ⟨⟨Or.inl (hw _ (wd 16 rfl)), _, pf_0, rfl⟩, ⟨⟨Or.inl (hw _ (wd 23 rfl)), _, pf_3, rfl⟩, trivial⟩⟩⟩⟩
theorem nd_5 : (["ranks", "slots", "sizes", "count"] : List String).Nodup := by decide
theorem hy_6 : "com/example/outliers_into_crowds/outliersintocrowds/schedule/Placement" ≠ "java/lang/invoke/MethodHandle" ∧ "com/example/outliers_into_crowds/outliersintocrowds/schedule/Placement" ≠ "java/lang/invoke/VarHandle" := by decide
theorem pd_7 : parseMethodDescriptor "()V" = some ⟨[], none⟩ := by decide +kernel
theorem pd_8 : parseMethodDescriptor "(I)[I" = some ⟨[.int], some (.array .int)⟩ := by decide +kernel
theorem hy_9 : "com/example/outliers_into_crowds/outliersintocrowds/schedule/PlacementCountsPinLaw" ≠ "java/lang/invoke/MethodHandle" ∧ "com/example/outliers_into_crowds/outliersintocrowds/schedule/PlacementCountsPinLaw" ≠ "java/lang/invoke/VarHandle" := by decide
theorem pd_10 : parseMethodDescriptor "(ZII)I" = some ⟨[.boolean, .int, .int], some .int⟩ := by decide +kernel
theorem pd_11 : parseMethodDescriptor "(III)V" = some ⟨[.int, .int, .int], none⟩ := by decide +kernel
abbrev Po (r c d : Value) (n : Int32) : GCell := ob "com/example/outliers_into_crowds/outliersintocrowds/schedule/Placement" [("ranks", "[I", r), ("slots", "[I", c), ("sizes", "[I", d), ("count", "I", .int n)]
def own_cnt (ys : List Int32) (p : Int32) : Int := match ys with
  | [] => 0
  | y :: t => (if y = p then 1 else 0) + own_cnt t p
theorem own_cnt_app (ys : List Int32) (y p : Int32) : own_cnt (ys ++ [y]) p = own_cnt ys p + (if y = p then 1 else 0) := by
  induction ys with
  | nil => simp [own_cnt]
  | cons a t ih => simp only [List.cons_append, own_cnt, ih]; omega
theorem own_cnt_b (ys : List Int32) (p : Int32) : 0 ≤ own_cnt ys p ∧ own_cnt ys p ≤ ys.length := by
  induction ys with
  | nil => simp [own_cnt]
  | cons a t ih => simp only [own_cnt, List.length_cons]; split <;> omega
theorem own_sum {a c : Int32} {m n : Int} (h1 : a.toInt = m) (h2 : c.toInt = n) (l : -1000 ≤ m + n) (u : m + n ≤ 1000) : (a + c).toInt = m + n := by
  have e := c_iadd a c
  have l1 := Int32.le_toInt (a + c)
  have l2 := Int32.toInt_lt (a + c)
  omega
theorem own_one : (1 : Int32).toInt = 1 := rfl
theorem own_ofN {x : Int32} {k : Nat} (h : x.toInt = (k : Int)) : x = Int32.ofNat k := by
  apply Int32.toInt_inj.mp
  have := Int32.toInt_lt x
  rw [h, Int32.toInt_ofNat_of_lt (by omega)]
theorem own_ofne {j k : Nat} (hj : j < 2147483648) (hk : k < 2147483648) (h : Int32.ofNat j = Int32.ofNat k) : j = k := by
  have := congrArg Int32.toInt h
  rw [Int32.toInt_ofNat_of_lt (by omega), Int32.toInt_ofNat_of_lt (by omega)] at this
  omega
theorem own_last (H : List GCell) (x y : GCell) : (H ++ [x]).set H.length y = H ++ [y] := by simp
def Cts (L : Nat) (ys : List Int32) (cs : List Value) : Prop := cs.length = L ∧ ∀ p : Nat, p < L → ∃ z : Int32, cs[p]? = some (.int z) ∧ z.toInt = own_cnt ys (Int32.ofNat p)
theorem own_cts0 (L : Nat) : Cts L [] (List.replicate L (.int 0)) := ⟨by simp, fun p hp => ⟨0, by simp [hp], rfl⟩⟩
theorem own_cts1 {L : Nat} {ys : List Int32} {cs : List Value} {y z : Int32} {k : Nat} (h : Cts L ys cs) (hL : L ≤ 15) (hy : ys.length ≤ 100) (hk : y.toInt = (k : Int)) (hkl : k < L) (hz : cs[k]? = some (.int z)) : Cts L (ys ++ [y]) (cs.set k (.int (z + 1))) := by
  refine ⟨by simp [h.1], fun p hp => ?_⟩
  obtain ⟨z0, e1, e2⟩ := h.2 p hp
  have b := own_cnt_b ys (Int32.ofNat p)
  by_cases q : k = p
  · subst q
    cases e1.symm.trans hz
    refine ⟨z + 1, by simp [h.1, hkl], ?_⟩
    rw [own_sum e2 own_one (by omega) (by omega), own_cnt_app, if_pos (own_ofN hk)]
  · refine ⟨z0, by rw [List.getElem?_set_ne q]; exact e1, ?_⟩
    rw [own_cnt_app, if_neg, e2, Int.add_zero]
    intro e
    exact q (own_ofne (by omega) (by omega) ((own_ofN hk).symm.trans e))

set_option maxRecDepth 65536 in
set_option maxHeartbeats 4000000 in
theorem c_init {l : Launch} {Z : State} {a0 : Array Value} {b : Nat} (hw : ∀ d ∈ tables_1, d.before a0 Z = true)  :
    Met l Z a0 b (⟨"com/example/outliers_into_crowds/outliersintocrowds/schedule/Placement", "<init>", "()V"⟩ : MethodName) prog_33_method_1_code 1 none ({ frames := 1, cells := 3, slots := 48, locals := 13 } : Room) [.ref 0] [Po .null .null .null 0] (fun v H' => v = none ∧ H' = [Po (.ref 1) (.ref 2) (.ref 3) 0, ar .int [.int 0, .int 0, .int 0, .int 0, .int 0, .int 0, .int 0, .int 0, .int 0, .int 0, .int 0, .int 0, .int 0, .int 0, .int 0, .int 0], ar .int [.int 0, .int 0, .int 0, .int 0, .int 0, .int 0, .int 0, .int 0, .int 0, .int 0, .int 0, .int 0, .int 0, .int 0, .int 0, .int 0], ar .int [.int 0, .int 0, .int 0, .int 0, .int 0, .int 0, .int 0, .int 0, .int 0, .int 0, .int 0, .int 0, .int 0, .int 0, .int 0, .int 0]]) := by
  refine Met.of_go hw (plainFor_of_name pn_1) (L0 := [.val (.ref 0)]) rfl ?_
  intro p e s m args below meth c C
  refine go_aloadN e1_0 rfl rfl ?_
  refine go_initO (C := C) e1_1 (wd 7 rfl) (wd 8 rfl) (wd (W := tables_1) 9 rfl) rfl (by decide) 0 (by decide) (by decide) ?_
  refine go_aloadN e1_4 rfl rfl ?_
  refine go_bipush e1_5 (x := 16) rfl ?_
  refine go_newarray e1_7 (wd 10 rfl) (k := 16) rfl (vs := [.int 0, .int 0, .int 0, .int 0, .int 0, .int 0, .int 0, .int 0, .int 0, .int 0, .int 0, .int 0, .int 0, .int 0, .int 0, .int 0]) rfl (cap := 16) (by decide) (by decide) (by decide) (by decide) ?_
  simp only [List.replicate_succ, List.replicate_zero, List.set_cons_zero, List.set_cons_succ, List.length_nil, List.length_cons, Nat.zero_add, Nat.reduceAdd, List.nil_append, List.cons_append]
  refine go_putfield e1_9 (wd 11 rfl) (Or.inl (wd 12 rfl)) (wd 2 rfl) pf_0 rfl (j := 0) rfl rfl rfl ?_
  simp only [List.replicate_succ, List.replicate_zero, List.set_cons_zero, List.set_cons_succ, List.length_nil, List.length_cons, Nat.zero_add, Nat.reduceAdd, List.nil_append, List.cons_append]
  refine go_aloadN e1_12 rfl rfl ?_
  refine go_bipush e1_13 (x := 16) rfl ?_
  refine go_newarray e1_15 (wd 10 rfl) (k := 16) rfl (vs := [.int 0, .int 0, .int 0, .int 0, .int 0, .int 0, .int 0, .int 0, .int 0, .int 0, .int 0, .int 0, .int 0, .int 0, .int 0, .int 0]) rfl (cap := 16) (by decide) (by decide) (by decide) (by decide) ?_
  simp only [List.replicate_succ, List.replicate_zero, List.set_cons_zero, List.set_cons_succ, List.length_nil, List.length_cons, Nat.zero_add, Nat.reduceAdd, List.nil_append, List.cons_append]
  refine go_putfield e1_17 (wd 13 rfl) (Or.inl (wd 14 rfl)) (wd 2 rfl) pf_0 rfl (j := 1) rfl rfl rfl ?_
  simp only [List.replicate_succ, List.replicate_zero, List.set_cons_zero, List.set_cons_succ, List.length_nil, List.length_cons, Nat.zero_add, Nat.reduceAdd, List.nil_append, List.cons_append]
  refine go_aloadN e1_20 rfl rfl ?_
  refine go_bipush e1_21 (x := 16) rfl ?_
  refine go_newarray e1_23 (wd 10 rfl) (k := 16) rfl (vs := [.int 0, .int 0, .int 0, .int 0, .int 0, .int 0, .int 0, .int 0, .int 0, .int 0, .int 0, .int 0, .int 0, .int 0, .int 0, .int 0]) rfl (cap := 16) (by decide) (by decide) (by decide) (by decide) ?_
  simp only [List.replicate_succ, List.replicate_zero, List.set_cons_zero, List.set_cons_succ, List.length_nil, List.length_cons, Nat.zero_add, Nat.reduceAdd, List.nil_append, List.cons_append]
  refine go_putfield e1_25 (wd 15 rfl) (Or.inl (wd 16 rfl)) (wd 2 rfl) pf_0 rfl (j := 2) rfl rfl rfl ?_
  simp only [List.replicate_succ, List.replicate_zero, List.set_cons_zero, List.set_cons_succ, List.length_nil, List.length_cons, Nat.zero_add, Nat.reduceAdd, List.nil_append, List.cons_append]
  refine go_return e1_28 rfl (by decide) (by decide) ?_
  exact ⟨rfl, rfl⟩
set_option maxRecDepth 65536 in
set_option maxHeartbeats 4000000 in
theorem c_hit {l : Launch} {Z : State} {a0 : Array Value} {b : Nat} (hw : ∀ d ∈ tables_1, d.before a0 Z = true) {H : List GCell} {pr s0 p0 : Int32} :
    Met l Z a0 b (⟨"com/example/outliers_into_crowds/outliersintocrowds/schedule/PlacementCountsPinLaw", "hit", "(ZII)I"⟩ : MethodName) method_3_code 3 (some .int) ({ frames := 0, cells := 0, slots := 0, locals := 0 } : Room) [.int pr, .int s0, .int p0] H (fun v H' => ∃ u, v = some u ∧ (u = .int (if pr = 0 then 0 else if s0 = p0 then 1 else 0) ∧ H' = H)) := by
  refine Met.of_go hw (plainFor_of_name pn_2) (L0 := [.val (.int pr), .val (.int s0), .val (.int p0)]) rfl ?_
  intro p e s m args below meth c C
  refine go_iloadN e4_0 rfl ?_
  refine go_ifeq e4_1 (tg := 11) (by decide) ?_ ?_
  · intro c1
    refine go_iconst e4_11 (x := 0) rfl ?_
    refine go_ireturn e4_12 rfl (by decide) (by decide) ?_
    exact ⟨_, rfl, by rw [if_pos c1], rfl⟩
  · intro c1
    refine go_iloadN e4_4 rfl ?_
    refine go_iloadN e4_5 rfl ?_
    refine go_icne e4_6 (tg := 11) (by decide) ?_ ?_
    · intro c6
      refine go_iconst e4_11 (x := 0) rfl ?_
      refine go_ireturn e4_12 rfl (by decide) (by decide) ?_
      exact ⟨_, rfl, by rw [if_neg c1, if_neg c6], rfl⟩
    · intro c6
      refine go_iconst e4_9 (x := 1) rfl ?_
      refine go_ireturn e4_10 rfl (by decide) (by decide) ?_
      exact ⟨_, rfl, by rw [if_neg c1, if_pos c6], rfl⟩
set_option maxRecDepth 65536 in
set_option maxHeartbeats 4000000 in
theorem c_add {l : Launch} {Z : State} {a0 : Array Value} {b : Nat} (hw : ∀ d ∈ tables_1, d.before a0 Z = true) {H : List GCell} {q a c0 d k : Nat} {n x1 x2 x3 : Int32} {vs us ts : List Value} (hq : H[q]? = some (Po (.ref a) (.ref c0) (.ref d) n)) (ha : H[a]? = some (ar .int vs)) (hc : H[c0]? = some (ar .int us)) (hd : H[d]? = some (ar .int ts)) (hac : a ≠ c0) (had : a ≠ d) (hcd : c0 ≠ d) (hn : n.toInt = (k : Int)) (hv : k < vs.length) (hu : k < us.length) (ht : k < ts.length) (htl : ts.length ≤ 100) :
    Met l Z a0 b (⟨"com/example/outliers_into_crowds/outliersintocrowds/schedule/Placement", "add", "(III)V"⟩ : MethodName) prog_33_method_2_code 4 none ({ frames := 0, cells := 0, slots := 0, locals := 0 } : Room) [.ref q, .int x1, .int x2, .int x3] H (fun v H' => v = none ∧ H' = (((H.set a (ar .int (vs.set k (.int x1)))).set c0 (ar .int (us.set k (.int x2)))).set d (ar .int (ts.set k (.int x3)))).set q (Po (.ref a) (.ref c0) (.ref d) (n + 1))) := by
  refine Met.of_go hw (plainFor_of_name pn_1) (L0 := [.val (.ref q), .val (.int x1), .val (.int x2), .val (.int x3)]) rfl ?_
  intro p e s m args below meth c C
  refine go_aloadN e5_0 rfl rfl ?_
  refine go_getfield e5_1 (wd 22 rfl) hq (j := 3) rfl ?_
  refine go_aloadN e5_4 rfl rfl ?_
  refine go_getfield e5_5 (wd 15 rfl) hq (j := 2) rfl ?_
  refine go_len e5_8 hd (n := (ts.length.toInt32)) rfl ?_
  refine go_icneY e5_9 (tg := 63) (by decide) (fun e => by have := congrArg Int32.toInt e; rw [hn, len_toInt (by omega)] at this; omega) ?_
  refine go_aloadN e5_63 rfl rfl ?_
  refine go_getfield e5_64 (wd 11 rfl) hq (j := 0) rfl ?_
  refine go_aloadN e5_67 rfl rfl ?_
  refine go_getfield e5_68 (wd 22 rfl) hq (j := 3) rfl ?_
  refine go_iloadN e5_71 rfl ?_
  refine go_iastore e5_72 ha (k := k) hn hv ?_
  refine go_aloadN e5_73 rfl rfl ?_
  refine go_getfield e5_74 (wd 13 rfl) (get_ne hq (Ne.symm (ne_oa hq ha))) (j := 1) rfl ?_
  refine go_aloadN e5_77 rfl rfl ?_
  refine go_getfield e5_78 (wd 22 rfl) (get_ne hq (Ne.symm (ne_oa hq ha))) (j := 3) rfl ?_
  refine go_iloadN e5_81 rfl ?_
  refine go_iastore e5_82 (get_ne hc hac) (k := k) hn hu ?_
  refine go_aloadN e5_83 rfl rfl ?_
  refine go_getfield e5_84 (wd 15 rfl) (get_ne (get_ne hq (Ne.symm (ne_oa hq ha))) (Ne.symm (ne_oa hq hc))) (j := 2) rfl ?_
  refine go_aloadN e5_87 rfl rfl ?_
  refine go_getfield e5_88 (wd 22 rfl) (get_ne (get_ne hq (Ne.symm (ne_oa hq ha))) (Ne.symm (ne_oa hq hc))) (j := 3) rfl ?_
  refine go_iloadN e5_91 rfl ?_
  refine go_iastore e5_92 (get_ne (get_ne hd had) hcd) (k := k) hn ht ?_
  refine go_aloadN e5_93 rfl rfl ?_
  refine go_dup e5_94 rfl ?_
  refine go_getfield e5_95 (wd 22 rfl) (get_ne (get_ne (get_ne hq (Ne.symm (ne_oa hq ha))) (Ne.symm (ne_oa hq hc))) (Ne.symm (ne_oa hq hd))) (j := 3) rfl ?_
  refine go_iconst e5_98 (x := 1) rfl ?_
  refine go_iadd e5_99 ?_
  refine go_putfield e5_100 (wd 22 rfl) (Or.inl (wd 23 rfl)) (wd 2 rfl) pf_3 (get_ne (get_ne (get_ne hq (Ne.symm (ne_oa hq ha))) (Ne.symm (ne_oa hq hc))) (Ne.symm (ne_oa hq hd))) (j := 3) rfl rfl rfl ?_
  refine go_return e5_103 rfl (by decide) (by decide) ?_
  exact ⟨rfl, rfl⟩
set_option maxRecDepth 65536 in
set_option maxHeartbeats 4000000 in
theorem c_counts {l : Launch} {Z : State} {a0 : Array Value} {b : Nat} (hw : ∀ d ∈ tables_1, d.before a0 Z = true) {H : List GCell} {q a c0 d L : Nat} {n l0 : Int32} {ys : List Int32} {rest : List Value} (hq : H[q]? = some (Po (.ref a) (.ref c0) (.ref d) n)) (hd : H[d]? = some (ar .int (ys.map Value.int ++ rest))) (hc : n.toInt = (ys.length : Int)) (hyl : ys.length ≤ 100) (hL : l0.toInt = (L : Int)) (hL2 : L ≤ 15) (hy : ∀ y ∈ ys, 0 ≤ y.toInt ∧ y.toInt < (L : Int)) :
    Met l Z a0 b (⟨"com/example/outliers_into_crowds/outliersintocrowds/schedule/Placement", "counts", "(I)[I"⟩ : MethodName) prog_33_method_6_code 4 (some (.array .int)) ({ frames := 0, cells := 1, slots := 15, locals := 0 } : Room) [.ref q, .int l0] H (fun v H' => ∃ u, v = some u ∧ (u = .ref H.length ∧ ∃ cs, H' = H ++ [ar .int cs] ∧ Cts L ys cs)) := by
  refine Met.of_go hw (plainFor_of_name pn_1) (L0 := [.val (.ref q), .val (.int l0), .unset, .unset]) rfl ?_
  intro p e s m args below meth c C
  have loop : ∀ (r i : Nat) (ii : Int32) (cs : List Value), i + r = ys.length → ii.toInt = (i : Int) → Cts L (ys.take i) cs → Go C 6 [.val (.ref q), .val (.int l0), .val (.ref H.length), .val (.int ii)] [] (H ++ [ar .int cs]) (0 + 1) (0 + 15) := by
    intro r
    induction r with
    | zero =>
      intro i ii cs hir hii hcs
      refine go_iloadN e3_6 rfl ?_
      refine go_aloadN e3_7 rfl rfl ?_
      refine go_getfield e3_8 (wd 22 rfl) (get_app hq) (j := 3) rfl ?_
      refine go_icgeY e3_11 (tg := 32) (by decide) (by rw [hc, hii]; omega) ?_
      refine go_aloadN e3_32 rfl rfl ?_
      refine go_areturn e3_33 rfl rfl rfl (by decide) (by decide) ?_
      exact ⟨_, rfl, rfl, cs, rfl, by rw [List.take_of_length_le (by omega)] at hcs; exact hcs⟩
    | succ r ih =>
      intro i ii cs hir hii hcs
      obtain ⟨y, hy0⟩ : ∃ y, ys[i]? = some y := ⟨_, List.getElem?_eq_getElem (show i < ys.length by omega)⟩
      have hy1 : (ys.map Value.int ++ rest)[i]? = some (.int y) := by rw [List.getElem?_append_left (by simp; omega)]; simp [hy0]
      obtain ⟨k0, hk0, hk1⟩ : ∃ k0 : Nat, y.toInt = (k0 : Int) ∧ k0 < L := by
        have := hy y (List.mem_of_getElem? hy0)
        exact ⟨y.toInt.toNat, by omega, by omega⟩
      obtain ⟨z0, hz0, -⟩ := hcs.2 k0 hk1
      refine go_iloadN e3_6 rfl ?_
      refine go_aloadN e3_7 rfl rfl ?_
      refine go_getfield e3_8 (wd 22 rfl) (get_app hq) (j := 3) rfl ?_
      refine go_icgeN e3_11 (tg := 32) (by decide) (by rw [hc, hii]; omega) ?_
      refine go_aloadN e3_14 rfl rfl ?_
      refine go_aloadN e3_15 rfl rfl ?_
      refine go_getfield e3_16 (wd 15 rfl) (get_app hq) (j := 2) rfl ?_
      refine go_iloadN e3_19 rfl ?_
      refine go_iaload e3_20 (get_app hd) (k := i) hii hy1 ?_
      refine go_dup2 e3_21 rfl rfl ?_
      refine go_iaload e3_22 get_last (k := k0) hk0 hz0 ?_
      refine go_iconst e3_23 (x := 1) rfl ?_
      refine go_iadd e3_24 ?_
      refine go_iastore e3_25 get_last (k := k0) hk0 (by rw [hcs.1]; exact hk1) ?_
      rw [own_last]
      refine go_iinc_3 e3_26 (z := 1) rfl ?_
      refine go_goto e3_29 (tg := 6) (by decide) ?_
      exact ih (i + 1) (ii + 1) _ (by omega) (by rw [own_sum hii own_one (by omega) (by omega)]; omega) (by rw [List.take_succ, hy0]; exact own_cts1 hcs hL2 (by rw [List.length_take]; omega) hk0 hk1 hz0)
  refine go_iloadN e3_0 rfl ?_
  refine go_newarray e3_1 (wd 10 rfl) (k := L) hL (vs := List.replicate L (.int 0)) rfl (cap := 15) hL2 (by decide) (by decide) (by decide) ?_
  refine go_astore_2 e3_3 rfl rfl ?_
  refine go_iconst e3_4 (x := 0) rfl ?_
  refine go_istore_3 e3_5 rfl ?_
  exact loop ys.length 0 0 _ (by omega) rfl (own_cts0 L)
set_option maxRecDepth 65536 in
set_option maxHeartbeats 4000000 in
theorem law_met {l : Launch} {Z : State} {a0 : Array Value} {b : Nat} (hw : ∀ d ∈ tables_1, d.before a0 Z = true) (i0 i1 i2 i3 i4 i5 : Int32) :
    Met l Z a0 b x code maxLocals ret room_1 [.int i0, .int i1, .int i2, .int i3, .int i4, .int i5] [] (fun v _ => v = some (.int 1)) := by
  refine Met.of_go hw (plainFor_of_name pn_2) (L0 := [.val (.int i0), .val (.int i1), .val (.int i2), .val (.int i3), .val (.int i4), .val (.int i5), .unset, .unset, .unset, .unset, .unset, .unset, .unset, .unset, .unset, .unset]) rfl ?_
  intro p e s m args below meth c C
  refine go_iloadN e0_0 rfl ?_
  refine go_bipush e0_1 (x := 15) rfl ?_
  refine go_iand e0_3 ?_
  refine go_iconst e0_4 (x := 5) rfl ?_
  refine go_irem e0_5 (by decide) ?_
  refine go_istoreX_6 e0_6 rfl ?_
  intro parts hparts
  refine go_bipush e0_8 (x := 8) rfl ?_
  refine go_iloadN e0_10 rfl ?_
  refine go_iconst e0_11 (x := 4) rfl ?_
  refine go_iushr e0_12 ?_
  refine go_bipush e0_13 (x := 7) rfl ?_
  refine go_iand e0_15 ?_
  refine go_iadd e0_16 ?_
  refine go_istoreX_7 e0_17 rfl ?_
  intro len hlen
  obtain ⟨L, hL, hL1, hL2⟩ : ∃ L : Nat, len.toInt = (L : Int) ∧ 8 ≤ L ∧ L ≤ 15 := by
    have e1 := c_mask (XT.ushr i0 4) 7 3 (by decide) (by decide)
    have k8 : (8 : Int32).toInt = 8 := rfl
    have e2 := own_sum k8 e1 (by omega) (by omega)
    exact ⟨len.toInt.toNat, by rw [hlen]; omega, by rw [hlen]; omega, by rw [hlen]; omega⟩
  refine go_iloadN e0_19 rfl ?_
  refine go_bipush e0_20 (x := 7) rfl ?_
  refine go_iand e0_22 ?_
  refine go_istoreX_8 e0_23 rfl ?_
  intro sa hsa
  refine go_iloadN e0_25 rfl ?_
  refine go_bipush e0_26 (x := 7) rfl ?_
  refine go_iand e0_28 ?_
  refine go_istoreX_9 e0_29 rfl ?_
  intro sb hsb
  refine go_iloadN e0_31 rfl ?_
  refine go_bipush e0_32 (x := 7) rfl ?_
  refine go_iand e0_34 ?_
  refine go_istoreX_10 e0_35 rfl ?_
  intro sc hsc
  refine go_iload e0_37 rfl ?_
  refine go_bipush e0_39 (x := 7) rfl ?_
  refine go_iand e0_41 ?_
  refine go_istoreX_11 e0_42 rfl ?_
  intro sd hsd
  refine go_iload e0_44 rfl ?_
  refine go_ldc e0_46 (wd 0 rfl) ?_
  refine go_iand e0_48 ?_
  refine go_iload e0_49 rfl ?_
  refine go_irem e0_51 (fun z => by rw [z] at hL; have : (0 : Int32).toInt = 0 := rfl; omega) ?_
  refine go_istoreX_12 e0_52 rfl ?_
  intro probe hprobe
  have hsa2 := c_mask i1 7 3 (by decide) (by decide)
  rw [← hsa] at hsa2
  have hsb2 := c_mask i2 7 3 (by decide) (by decide)
  rw [← hsb] at hsb2
  have hsc2 := c_mask i3 7 3 (by decide) (by decide)
  rw [← hsc] at hsc2
  have hsd2 := c_mask i4 7 3 (by decide) (by decide)
  rw [← hsd] at hsd2
  obtain ⟨kp, hkp, hkpl⟩ : ∃ kp : Nat, probe.toInt = (kp : Int) ∧ kp < L := by
    have h := (c_iremV (i5 &&& 2147483647) len).1 (c_and _ _ (by decide)).1 (by omega)
    exact ⟨probe.toInt.toNat, by rw [hprobe]; omega, by rw [hprobe]; omega⟩
  have hcs : parts = 0 ∨ parts = 1 ∨ parts = 2 ∨ parts = 3 ∨ parts = 4 := by
    have e1 := c_mask i0 15 4 (by decide) (by decide)
    have e2 := (c_irem (i0 &&& 15) 5 5 (by decide)).1 (by omega)
    have e3 : parts.toInt = 0 ∨ parts.toInt = 1 ∨ parts.toInt = 2 ∨ parts.toInt = 3 ∨ parts.toInt = 4 := by rw [hparts]; omega
    rcases e3 with e | e | e | e | e
    · exact Or.inl (Int32.toInt_inj.mp e)
    · exact Or.inr (Or.inl (Int32.toInt_inj.mp e))
    · exact Or.inr (Or.inr (Or.inl (Int32.toInt_inj.mp e)))
    · exact Or.inr (Or.inr (Or.inr (Or.inl (Int32.toInt_inj.mp e))))
    · exact Or.inr (Or.inr (Or.inr (Or.inr (Int32.toInt_inj.mp e))))
  clear hsa hsb hsc hsd hprobe hlen
  rcases hcs with rfl | rfl | rfl | rfl | rfl
  · refine go_new e0_54 (wd 1 rfl) (wd 2 rfl) (wd 3 rfl) (lay_4 hw) nd_5 (by decide) (by decide) ?_
    simp only [List.replicate_succ, List.replicate_zero, List.set_cons_zero, List.set_cons_succ, List.length_nil, List.length_cons, Nat.zero_add, Nat.reduceAdd, List.nil_append, List.cons_append]
    refine go_dup e0_57 rfl ?_
    refine go_specialV_0 rfl e0_58 (wd 4 rfl) (wd 5 rfl) (wd 6 rfl) (wd 3 rfl) hy_6 pd_7 rfl (c_init hw) rfl 1 rfl (by decide) (by decide) (by decide) (by decide) ?_
    rintro _ rfl
    try simp only [List.replicate_succ, List.replicate_zero, List.set_cons_zero, List.set_cons_succ, List.length_nil, List.length_cons, Nat.zero_add, Nat.reduceAdd, List.nil_append, List.cons_append]
    refine go_astore_13 e0_61 rfl rfl ?_
    refine go_iload e0_63 rfl ?_
    refine go_ifleY e0_65 (tg := 80) (by decide) (by decide) ?_
    refine go_iload e0_80 rfl ?_
    refine go_iconst e0_82 (x := 1) rfl ?_
    refine go_icleY e0_83 (tg := 97) (by decide) (by decide) ?_
    refine go_iload e0_97 rfl ?_
    refine go_iconst e0_99 (x := 2) rfl ?_
    refine go_icleY e0_100 (tg := 114) (by decide) (by decide) ?_
    refine go_iload e0_114 rfl ?_
    refine go_iconst e0_116 (x := 3) rfl ?_
    refine go_icleY e0_117 (tg := 132) (by decide) (by decide) ?_
    refine go_aload e0_132 rfl rfl ?_
    refine go_iload e0_134 rfl ?_
    refine go_virtual_1 e0_136 (wd 17 rfl) (wd 18 rfl) (wd 20 rfl) (wd 19 rfl) (wd 21 rfl) (wd 3 rfl) hy_6 pd_8 rfl (c_counts hw (ys := []) (rest := [.int 0, .int 0, .int 0, .int 0, .int 0, .int 0, .int 0, .int 0, .int 0, .int 0, .int 0, .int 0, .int 0, .int 0, .int 0, .int 0]) rfl rfl rfl (by decide) hL hL2 (by intro y hy; cases hy)) rfl rfl 0 rfl (by decide) (by decide) (by decide) (by decide) ?_
    rintro _ _ ⟨rfl, cs, rfl, hcs⟩
    try simp only [List.replicate_succ, List.replicate_zero, List.set_cons_zero, List.set_cons_succ, List.length_nil, List.length_cons, Nat.zero_add, Nat.reduceAdd, List.nil_append, List.cons_append]
    refine go_astore_14 e0_139 rfl rfl ?_
    obtain ⟨zp, hzp, hzv⟩ := hcs.2 kp hkpl
    rw [← own_ofN hkp] at hzv
    simp only [own_cnt] at hzv
    refine go_iload e0_141 rfl ?_
    refine go_ifleY e0_143 (tg := 150) (by decide) (by decide) ?_
    refine go_iconst e0_150 (x := 0) rfl ?_
    refine go_iload e0_151 rfl ?_
    refine go_iload e0_153 rfl ?_
    refine go_static_3 e0_155 (wd 24 rfl) (wd 25 rfl) (wd 27 rfl) (wd 26 rfl) hy_9 pd_10 rfl (c_hit hw) rfl 0 rfl (by decide) (by decide) (by decide) (by decide) ?_
    rintro _ _ ⟨rfl, rfl⟩
    try simp only [List.replicate_succ, List.replicate_zero, List.set_cons_zero, List.set_cons_succ, List.length_nil, List.length_cons, Nat.zero_add, Nat.reduceAdd, List.nil_append, List.cons_append]
    refine go_iload e0_158 rfl ?_
    refine go_iconst e0_160 (x := 1) rfl ?_
    refine go_icleY e0_161 (tg := 168) (by decide) (by decide) ?_
    refine go_iconst e0_168 (x := 0) rfl ?_
    refine go_iload e0_169 rfl ?_
    refine go_iload e0_171 rfl ?_
    refine go_static_3 e0_173 (wd 24 rfl) (wd 25 rfl) (wd 27 rfl) (wd 26 rfl) hy_9 pd_10 rfl (c_hit hw) rfl 1 rfl (by decide) (by decide) (by decide) (by decide) ?_
    rintro _ _ ⟨rfl, rfl⟩
    try simp only [List.replicate_succ, List.replicate_zero, List.set_cons_zero, List.set_cons_succ, List.length_nil, List.length_cons, Nat.zero_add, Nat.reduceAdd, List.nil_append, List.cons_append]
    refine go_iadd e0_176 ?_
    refine go_iload e0_177 rfl ?_
    refine go_iconst e0_179 (x := 2) rfl ?_
    refine go_icleY e0_180 (tg := 187) (by decide) (by decide) ?_
    refine go_iconst e0_187 (x := 0) rfl ?_
    refine go_iload e0_188 rfl ?_
    refine go_iload e0_190 rfl ?_
    refine go_static_3 e0_192 (wd 24 rfl) (wd 25 rfl) (wd 27 rfl) (wd 26 rfl) hy_9 pd_10 rfl (c_hit hw) rfl 1 rfl (by decide) (by decide) (by decide) (by decide) ?_
    rintro _ _ ⟨rfl, rfl⟩
    try simp only [List.replicate_succ, List.replicate_zero, List.set_cons_zero, List.set_cons_succ, List.length_nil, List.length_cons, Nat.zero_add, Nat.reduceAdd, List.nil_append, List.cons_append]
    refine go_iadd e0_195 ?_
    refine go_iload e0_196 rfl ?_
    refine go_iconst e0_198 (x := 3) rfl ?_
    refine go_icleY e0_199 (tg := 206) (by decide) (by decide) ?_
    refine go_iconst e0_206 (x := 0) rfl ?_
    refine go_iload e0_207 rfl ?_
    refine go_iload e0_209 rfl ?_
    refine go_static_3 e0_211 (wd 24 rfl) (wd 25 rfl) (wd 27 rfl) (wd 26 rfl) hy_9 pd_10 rfl (c_hit hw) rfl 1 rfl (by decide) (by decide) (by decide) (by decide) ?_
    rintro _ _ ⟨rfl, rfl⟩
    try simp only [List.replicate_succ, List.replicate_zero, List.set_cons_zero, List.set_cons_succ, List.length_nil, List.length_cons, Nat.zero_add, Nat.reduceAdd, List.nil_append, List.cons_append]
    refine go_iadd e0_214 ?_
    refine go_istoreX_15 e0_215 rfl ?_
    intro ex hex
    refine go_aload e0_217 rfl rfl ?_
    refine go_len e0_219 rfl (n := len) (Int32.toInt_inj.mp (by rw [hcs.1, len_toInt (by omega), hL])) ?_
    refine go_iload e0_220 rfl ?_
    refine go_icneN e0_222 (tg := 239) (by decide) rfl ?_
    refine go_aload e0_225 rfl rfl ?_
    refine go_iload e0_227 rfl ?_
    refine go_iaload e0_229 rfl (k := kp) hkp hzp ?_
    refine go_iload e0_230 rfl ?_
    refine go_icneN e0_232 (tg := 239) (by decide) (by
        apply Int32.toInt_inj.mp
        rw [hzv]
        
        rw [hex]
        have o1 : ¬ (1 : Int32) = 0 := by decide
        simp only [o1, if_true, if_false]
        have z00 : (0 : Int32).toInt = 0 := rfl
        have s1 := own_sum z00 z00 (by omega) (by omega)
        have s2 := own_sum s1 z00 (by omega) (by omega)
        have s3 := own_sum s2 z00 (by omega) (by omega)
        rw [s3]
        omega) ?_
    refine go_iconst e0_235 (x := 1) rfl ?_
    refine go_goto e0_236 (tg := 240) (by decide) ?_
    refine go_zreturn e0_240 rfl (by decide) (by decide) (by decide) ?_
    exact rfl
  · refine go_new e0_54 (wd 1 rfl) (wd 2 rfl) (wd 3 rfl) (lay_4 hw) nd_5 (by decide) (by decide) ?_
    simp only [List.replicate_succ, List.replicate_zero, List.set_cons_zero, List.set_cons_succ, List.length_nil, List.length_cons, Nat.zero_add, Nat.reduceAdd, List.nil_append, List.cons_append]
    refine go_dup e0_57 rfl ?_
    refine go_specialV_0 rfl e0_58 (wd 4 rfl) (wd 5 rfl) (wd 6 rfl) (wd 3 rfl) hy_6 pd_7 rfl (c_init hw) rfl 1 rfl (by decide) (by decide) (by decide) (by decide) ?_
    rintro _ rfl
    try simp only [List.replicate_succ, List.replicate_zero, List.set_cons_zero, List.set_cons_succ, List.length_nil, List.length_cons, Nat.zero_add, Nat.reduceAdd, List.nil_append, List.cons_append]
    refine go_astore_13 e0_61 rfl rfl ?_
    refine go_iload e0_63 rfl ?_
    refine go_ifleN e0_65 (tg := 80) (by decide) (by decide) ?_
    refine go_aload e0_68 rfl rfl ?_
    refine go_iloadN e0_70 rfl ?_
    refine go_iconst e0_71 (x := 3) rfl ?_
    refine go_iushr e0_72 ?_
    refine go_iload e0_73 rfl ?_
    refine go_iload e0_75 rfl ?_
    refine go_virtualV_3 e0_77 (wd 28 rfl) (wd 29 rfl) (wd 31 rfl) (wd 30 rfl) (wd 32 rfl) (wd 3 rfl) hy_6 pd_11 rfl (c_add hw (k := 0) rfl rfl rfl rfl (by decide) (by decide) (by decide) (by decide) (Nat.le_of_ble_eq_true rfl) (Nat.le_of_ble_eq_true rfl) (Nat.le_of_ble_eq_true rfl) (Nat.le_of_ble_eq_true rfl)) rfl rfl 0 rfl (by decide) (by decide) (by decide) (by decide) ?_
    rintro _ rfl
    try simp only [List.replicate_succ, List.replicate_zero, List.set_cons_zero, List.set_cons_succ, List.length_nil, List.length_cons, Nat.zero_add, Nat.reduceAdd, List.nil_append, List.cons_append]
    refine go_iload e0_80 rfl ?_
    refine go_iconst e0_82 (x := 1) rfl ?_
    refine go_icleY e0_83 (tg := 97) (by decide) (by decide) ?_
    refine go_iload e0_97 rfl ?_
    refine go_iconst e0_99 (x := 2) rfl ?_
    refine go_icleY e0_100 (tg := 114) (by decide) (by decide) ?_
    refine go_iload e0_114 rfl ?_
    refine go_iconst e0_116 (x := 3) rfl ?_
    refine go_icleY e0_117 (tg := 132) (by decide) (by decide) ?_
    refine go_aload e0_132 rfl rfl ?_
    refine go_iload e0_134 rfl ?_
    refine go_virtual_1 e0_136 (wd 17 rfl) (wd 18 rfl) (wd 20 rfl) (wd 19 rfl) (wd 21 rfl) (wd 3 rfl) hy_6 pd_8 rfl (c_counts hw (ys := [sa]) (rest := [.int 0, .int 0, .int 0, .int 0, .int 0, .int 0, .int 0, .int 0, .int 0, .int 0, .int 0, .int 0, .int 0, .int 0, .int 0]) rfl rfl rfl (Nat.le_of_ble_eq_true rfl) hL hL2 (by intro y hy; simp only [List.mem_cons, List.not_mem_nil, or_false] at hy; rcases hy with rfl <;> omega)) rfl rfl 0 rfl (by decide) (by decide) (by decide) (by decide) ?_
    rintro _ _ ⟨rfl, cs, rfl, hcs⟩
    try simp only [List.replicate_succ, List.replicate_zero, List.set_cons_zero, List.set_cons_succ, List.length_nil, List.length_cons, Nat.zero_add, Nat.reduceAdd, List.nil_append, List.cons_append]
    refine go_astore_14 e0_139 rfl rfl ?_
    obtain ⟨zp, hzp, hzv⟩ := hcs.2 kp hkpl
    rw [← own_ofN hkp] at hzv
    simp only [own_cnt] at hzv
    refine go_iload e0_141 rfl ?_
    refine go_ifleN e0_143 (tg := 150) (by decide) (by decide) ?_
    refine go_iconst e0_146 (x := 1) rfl ?_
    refine go_goto e0_147 (tg := 151) (by decide) ?_
    refine go_iload e0_151 rfl ?_
    refine go_iload e0_153 rfl ?_
    refine go_static_3 e0_155 (wd 24 rfl) (wd 25 rfl) (wd 27 rfl) (wd 26 rfl) hy_9 pd_10 rfl (c_hit hw) rfl 0 rfl (by decide) (by decide) (by decide) (by decide) ?_
    rintro _ _ ⟨rfl, rfl⟩
    try simp only [List.replicate_succ, List.replicate_zero, List.set_cons_zero, List.set_cons_succ, List.length_nil, List.length_cons, Nat.zero_add, Nat.reduceAdd, List.nil_append, List.cons_append]
    refine go_iload e0_158 rfl ?_
    refine go_iconst e0_160 (x := 1) rfl ?_
    refine go_icleY e0_161 (tg := 168) (by decide) (by decide) ?_
    refine go_iconst e0_168 (x := 0) rfl ?_
    refine go_iload e0_169 rfl ?_
    refine go_iload e0_171 rfl ?_
    refine go_static_3 e0_173 (wd 24 rfl) (wd 25 rfl) (wd 27 rfl) (wd 26 rfl) hy_9 pd_10 rfl (c_hit hw) rfl 1 rfl (by decide) (by decide) (by decide) (by decide) ?_
    rintro _ _ ⟨rfl, rfl⟩
    try simp only [List.replicate_succ, List.replicate_zero, List.set_cons_zero, List.set_cons_succ, List.length_nil, List.length_cons, Nat.zero_add, Nat.reduceAdd, List.nil_append, List.cons_append]
    refine go_iadd e0_176 ?_
    refine go_iload e0_177 rfl ?_
    refine go_iconst e0_179 (x := 2) rfl ?_
    refine go_icleY e0_180 (tg := 187) (by decide) (by decide) ?_
    refine go_iconst e0_187 (x := 0) rfl ?_
    refine go_iload e0_188 rfl ?_
    refine go_iload e0_190 rfl ?_
    refine go_static_3 e0_192 (wd 24 rfl) (wd 25 rfl) (wd 27 rfl) (wd 26 rfl) hy_9 pd_10 rfl (c_hit hw) rfl 1 rfl (by decide) (by decide) (by decide) (by decide) ?_
    rintro _ _ ⟨rfl, rfl⟩
    try simp only [List.replicate_succ, List.replicate_zero, List.set_cons_zero, List.set_cons_succ, List.length_nil, List.length_cons, Nat.zero_add, Nat.reduceAdd, List.nil_append, List.cons_append]
    refine go_iadd e0_195 ?_
    refine go_iload e0_196 rfl ?_
    refine go_iconst e0_198 (x := 3) rfl ?_
    refine go_icleY e0_199 (tg := 206) (by decide) (by decide) ?_
    refine go_iconst e0_206 (x := 0) rfl ?_
    refine go_iload e0_207 rfl ?_
    refine go_iload e0_209 rfl ?_
    refine go_static_3 e0_211 (wd 24 rfl) (wd 25 rfl) (wd 27 rfl) (wd 26 rfl) hy_9 pd_10 rfl (c_hit hw) rfl 1 rfl (by decide) (by decide) (by decide) (by decide) ?_
    rintro _ _ ⟨rfl, rfl⟩
    try simp only [List.replicate_succ, List.replicate_zero, List.set_cons_zero, List.set_cons_succ, List.length_nil, List.length_cons, Nat.zero_add, Nat.reduceAdd, List.nil_append, List.cons_append]
    refine go_iadd e0_214 ?_
    refine go_istoreX_15 e0_215 rfl ?_
    intro ex hex
    refine go_aload e0_217 rfl rfl ?_
    refine go_len e0_219 rfl (n := len) (Int32.toInt_inj.mp (by rw [hcs.1, len_toInt (by omega), hL])) ?_
    refine go_iload e0_220 rfl ?_
    refine go_icneN e0_222 (tg := 239) (by decide) rfl ?_
    refine go_aload e0_225 rfl rfl ?_
    refine go_iload e0_227 rfl ?_
    refine go_iaload e0_229 rfl (k := kp) hkp hzp ?_
    refine go_iload e0_230 rfl ?_
    refine go_icneN e0_232 (tg := 239) (by decide) (by
        apply Int32.toInt_inj.mp
        rw [hzv]
        have t0 : (if sa = probe then 1 else 0 : Int32).toInt = if sa = probe then 1 else 0 := by split <;> rfl
        have u0 : 0 ≤ (if sa = probe then 1 else 0 : Int) ∧ (if sa = probe then 1 else 0 : Int) ≤ 1 := by split <;> omega
        rw [hex]
        have o1 : ¬ (1 : Int32) = 0 := by decide
        simp only [o1, if_true, if_false]
        have z00 : (0 : Int32).toInt = 0 := rfl
        have s1 := own_sum t0 z00 (by omega) (by omega)
        have s2 := own_sum s1 z00 (by omega) (by omega)
        have s3 := own_sum s2 z00 (by omega) (by omega)
        rw [s3]
        omega) ?_
    refine go_iconst e0_235 (x := 1) rfl ?_
    refine go_goto e0_236 (tg := 240) (by decide) ?_
    refine go_zreturn e0_240 rfl (by decide) (by decide) (by decide) ?_
    exact rfl
  · refine go_new e0_54 (wd 1 rfl) (wd 2 rfl) (wd 3 rfl) (lay_4 hw) nd_5 (by decide) (by decide) ?_
    simp only [List.replicate_succ, List.replicate_zero, List.set_cons_zero, List.set_cons_succ, List.length_nil, List.length_cons, Nat.zero_add, Nat.reduceAdd, List.nil_append, List.cons_append]
    refine go_dup e0_57 rfl ?_
    refine go_specialV_0 rfl e0_58 (wd 4 rfl) (wd 5 rfl) (wd 6 rfl) (wd 3 rfl) hy_6 pd_7 rfl (c_init hw) rfl 1 rfl (by decide) (by decide) (by decide) (by decide) ?_
    rintro _ rfl
    try simp only [List.replicate_succ, List.replicate_zero, List.set_cons_zero, List.set_cons_succ, List.length_nil, List.length_cons, Nat.zero_add, Nat.reduceAdd, List.nil_append, List.cons_append]
    refine go_astore_13 e0_61 rfl rfl ?_
    refine go_iload e0_63 rfl ?_
    refine go_ifleN e0_65 (tg := 80) (by decide) (by decide) ?_
    refine go_aload e0_68 rfl rfl ?_
    refine go_iloadN e0_70 rfl ?_
    refine go_iconst e0_71 (x := 3) rfl ?_
    refine go_iushr e0_72 ?_
    refine go_iload e0_73 rfl ?_
    refine go_iload e0_75 rfl ?_
    refine go_virtualV_3 e0_77 (wd 28 rfl) (wd 29 rfl) (wd 31 rfl) (wd 30 rfl) (wd 32 rfl) (wd 3 rfl) hy_6 pd_11 rfl (c_add hw (k := 0) rfl rfl rfl rfl (by decide) (by decide) (by decide) (by decide) (Nat.le_of_ble_eq_true rfl) (Nat.le_of_ble_eq_true rfl) (Nat.le_of_ble_eq_true rfl) (Nat.le_of_ble_eq_true rfl)) rfl rfl 0 rfl (by decide) (by decide) (by decide) (by decide) ?_
    rintro _ rfl
    try simp only [List.replicate_succ, List.replicate_zero, List.set_cons_zero, List.set_cons_succ, List.length_nil, List.length_cons, Nat.zero_add, Nat.reduceAdd, List.nil_append, List.cons_append]
    refine go_iload e0_80 rfl ?_
    refine go_iconst e0_82 (x := 1) rfl ?_
    refine go_icleN e0_83 (tg := 97) (by decide) (by decide) ?_
    refine go_aload e0_86 rfl rfl ?_
    refine go_iloadN e0_88 rfl ?_
    refine go_iconst e0_89 (x := 3) rfl ?_
    refine go_iushr e0_90 ?_
    refine go_iloadN e0_91 rfl ?_
    refine go_iload e0_92 rfl ?_
    refine go_virtualV_3 e0_94 (wd 28 rfl) (wd 29 rfl) (wd 31 rfl) (wd 30 rfl) (wd 32 rfl) (wd 3 rfl) hy_6 pd_11 rfl (c_add hw (k := 1) rfl rfl rfl rfl (by decide) (by decide) (by decide) (by decide) (Nat.le_of_ble_eq_true rfl) (Nat.le_of_ble_eq_true rfl) (Nat.le_of_ble_eq_true rfl) (Nat.le_of_ble_eq_true rfl)) rfl rfl 0 rfl (by decide) (by decide) (by decide) (by decide) ?_
    rintro _ rfl
    try simp only [List.replicate_succ, List.replicate_zero, List.set_cons_zero, List.set_cons_succ, List.length_nil, List.length_cons, Nat.zero_add, Nat.reduceAdd, List.nil_append, List.cons_append]
    refine go_iload e0_97 rfl ?_
    refine go_iconst e0_99 (x := 2) rfl ?_
    refine go_icleY e0_100 (tg := 114) (by decide) (by decide) ?_
    refine go_iload e0_114 rfl ?_
    refine go_iconst e0_116 (x := 3) rfl ?_
    refine go_icleY e0_117 (tg := 132) (by decide) (by decide) ?_
    refine go_aload e0_132 rfl rfl ?_
    refine go_iload e0_134 rfl ?_
    refine go_virtual_1 e0_136 (wd 17 rfl) (wd 18 rfl) (wd 20 rfl) (wd 19 rfl) (wd 21 rfl) (wd 3 rfl) hy_6 pd_8 rfl (c_counts hw (ys := [sa, sb]) (rest := [.int 0, .int 0, .int 0, .int 0, .int 0, .int 0, .int 0, .int 0, .int 0, .int 0, .int 0, .int 0, .int 0, .int 0]) rfl rfl rfl (Nat.le_of_ble_eq_true rfl) hL hL2 (by intro y hy; simp only [List.mem_cons, List.not_mem_nil, or_false] at hy; rcases hy with rfl | rfl <;> omega)) rfl rfl 0 rfl (by decide) (by decide) (by decide) (by decide) ?_
    rintro _ _ ⟨rfl, cs, rfl, hcs⟩
    try simp only [List.replicate_succ, List.replicate_zero, List.set_cons_zero, List.set_cons_succ, List.length_nil, List.length_cons, Nat.zero_add, Nat.reduceAdd, List.nil_append, List.cons_append]
    refine go_astore_14 e0_139 rfl rfl ?_
    obtain ⟨zp, hzp, hzv⟩ := hcs.2 kp hkpl
    rw [← own_ofN hkp] at hzv
    simp only [own_cnt] at hzv
    refine go_iload e0_141 rfl ?_
    refine go_ifleN e0_143 (tg := 150) (by decide) (by decide) ?_
    refine go_iconst e0_146 (x := 1) rfl ?_
    refine go_goto e0_147 (tg := 151) (by decide) ?_
    refine go_iload e0_151 rfl ?_
    refine go_iload e0_153 rfl ?_
    refine go_static_3 e0_155 (wd 24 rfl) (wd 25 rfl) (wd 27 rfl) (wd 26 rfl) hy_9 pd_10 rfl (c_hit hw) rfl 0 rfl (by decide) (by decide) (by decide) (by decide) ?_
    rintro _ _ ⟨rfl, rfl⟩
    try simp only [List.replicate_succ, List.replicate_zero, List.set_cons_zero, List.set_cons_succ, List.length_nil, List.length_cons, Nat.zero_add, Nat.reduceAdd, List.nil_append, List.cons_append]
    refine go_iload e0_158 rfl ?_
    refine go_iconst e0_160 (x := 1) rfl ?_
    refine go_icleN e0_161 (tg := 168) (by decide) (by decide) ?_
    refine go_iconst e0_164 (x := 1) rfl ?_
    refine go_goto e0_165 (tg := 169) (by decide) ?_
    refine go_iload e0_169 rfl ?_
    refine go_iload e0_171 rfl ?_
    refine go_static_3 e0_173 (wd 24 rfl) (wd 25 rfl) (wd 27 rfl) (wd 26 rfl) hy_9 pd_10 rfl (c_hit hw) rfl 1 rfl (by decide) (by decide) (by decide) (by decide) ?_
    rintro _ _ ⟨rfl, rfl⟩
    try simp only [List.replicate_succ, List.replicate_zero, List.set_cons_zero, List.set_cons_succ, List.length_nil, List.length_cons, Nat.zero_add, Nat.reduceAdd, List.nil_append, List.cons_append]
    refine go_iadd e0_176 ?_
    refine go_iload e0_177 rfl ?_
    refine go_iconst e0_179 (x := 2) rfl ?_
    refine go_icleY e0_180 (tg := 187) (by decide) (by decide) ?_
    refine go_iconst e0_187 (x := 0) rfl ?_
    refine go_iload e0_188 rfl ?_
    refine go_iload e0_190 rfl ?_
    refine go_static_3 e0_192 (wd 24 rfl) (wd 25 rfl) (wd 27 rfl) (wd 26 rfl) hy_9 pd_10 rfl (c_hit hw) rfl 1 rfl (by decide) (by decide) (by decide) (by decide) ?_
    rintro _ _ ⟨rfl, rfl⟩
    try simp only [List.replicate_succ, List.replicate_zero, List.set_cons_zero, List.set_cons_succ, List.length_nil, List.length_cons, Nat.zero_add, Nat.reduceAdd, List.nil_append, List.cons_append]
    refine go_iadd e0_195 ?_
    refine go_iload e0_196 rfl ?_
    refine go_iconst e0_198 (x := 3) rfl ?_
    refine go_icleY e0_199 (tg := 206) (by decide) (by decide) ?_
    refine go_iconst e0_206 (x := 0) rfl ?_
    refine go_iload e0_207 rfl ?_
    refine go_iload e0_209 rfl ?_
    refine go_static_3 e0_211 (wd 24 rfl) (wd 25 rfl) (wd 27 rfl) (wd 26 rfl) hy_9 pd_10 rfl (c_hit hw) rfl 1 rfl (by decide) (by decide) (by decide) (by decide) ?_
    rintro _ _ ⟨rfl, rfl⟩
    try simp only [List.replicate_succ, List.replicate_zero, List.set_cons_zero, List.set_cons_succ, List.length_nil, List.length_cons, Nat.zero_add, Nat.reduceAdd, List.nil_append, List.cons_append]
    refine go_iadd e0_214 ?_
    refine go_istoreX_15 e0_215 rfl ?_
    intro ex hex
    refine go_aload e0_217 rfl rfl ?_
    refine go_len e0_219 rfl (n := len) (Int32.toInt_inj.mp (by rw [hcs.1, len_toInt (by omega), hL])) ?_
    refine go_iload e0_220 rfl ?_
    refine go_icneN e0_222 (tg := 239) (by decide) rfl ?_
    refine go_aload e0_225 rfl rfl ?_
    refine go_iload e0_227 rfl ?_
    refine go_iaload e0_229 rfl (k := kp) hkp hzp ?_
    refine go_iload e0_230 rfl ?_
    refine go_icneN e0_232 (tg := 239) (by decide) (by
        apply Int32.toInt_inj.mp
        rw [hzv]
        have t0 : (if sa = probe then 1 else 0 : Int32).toInt = if sa = probe then 1 else 0 := by split <;> rfl
        have t1 : (if sb = probe then 1 else 0 : Int32).toInt = if sb = probe then 1 else 0 := by split <;> rfl
        have u0 : 0 ≤ (if sa = probe then 1 else 0 : Int) ∧ (if sa = probe then 1 else 0 : Int) ≤ 1 := by split <;> omega
        have u1 : 0 ≤ (if sb = probe then 1 else 0 : Int) ∧ (if sb = probe then 1 else 0 : Int) ≤ 1 := by split <;> omega
        rw [hex]
        have o1 : ¬ (1 : Int32) = 0 := by decide
        simp only [o1, if_true, if_false]
        have z00 : (0 : Int32).toInt = 0 := rfl
        have s1 := own_sum t0 t1 (by omega) (by omega)
        have s2 := own_sum s1 z00 (by omega) (by omega)
        have s3 := own_sum s2 z00 (by omega) (by omega)
        rw [s3]
        omega) ?_
    refine go_iconst e0_235 (x := 1) rfl ?_
    refine go_goto e0_236 (tg := 240) (by decide) ?_
    refine go_zreturn e0_240 rfl (by decide) (by decide) (by decide) ?_
    exact rfl
  · refine go_new e0_54 (wd 1 rfl) (wd 2 rfl) (wd 3 rfl) (lay_4 hw) nd_5 (by decide) (by decide) ?_
    simp only [List.replicate_succ, List.replicate_zero, List.set_cons_zero, List.set_cons_succ, List.length_nil, List.length_cons, Nat.zero_add, Nat.reduceAdd, List.nil_append, List.cons_append]
    refine go_dup e0_57 rfl ?_
    refine go_specialV_0 rfl e0_58 (wd 4 rfl) (wd 5 rfl) (wd 6 rfl) (wd 3 rfl) hy_6 pd_7 rfl (c_init hw) rfl 1 rfl (by decide) (by decide) (by decide) (by decide) ?_
    rintro _ rfl
    try simp only [List.replicate_succ, List.replicate_zero, List.set_cons_zero, List.set_cons_succ, List.length_nil, List.length_cons, Nat.zero_add, Nat.reduceAdd, List.nil_append, List.cons_append]
    refine go_astore_13 e0_61 rfl rfl ?_
    refine go_iload e0_63 rfl ?_
    refine go_ifleN e0_65 (tg := 80) (by decide) (by decide) ?_
    refine go_aload e0_68 rfl rfl ?_
    refine go_iloadN e0_70 rfl ?_
    refine go_iconst e0_71 (x := 3) rfl ?_
    refine go_iushr e0_72 ?_
    refine go_iload e0_73 rfl ?_
    refine go_iload e0_75 rfl ?_
    refine go_virtualV_3 e0_77 (wd 28 rfl) (wd 29 rfl) (wd 31 rfl) (wd 30 rfl) (wd 32 rfl) (wd 3 rfl) hy_6 pd_11 rfl (c_add hw (k := 0) rfl rfl rfl rfl (by decide) (by decide) (by decide) (by decide) (Nat.le_of_ble_eq_true rfl) (Nat.le_of_ble_eq_true rfl) (Nat.le_of_ble_eq_true rfl) (Nat.le_of_ble_eq_true rfl)) rfl rfl 0 rfl (by decide) (by decide) (by decide) (by decide) ?_
    rintro _ rfl
    try simp only [List.replicate_succ, List.replicate_zero, List.set_cons_zero, List.set_cons_succ, List.length_nil, List.length_cons, Nat.zero_add, Nat.reduceAdd, List.nil_append, List.cons_append]
    refine go_iload e0_80 rfl ?_
    refine go_iconst e0_82 (x := 1) rfl ?_
    refine go_icleN e0_83 (tg := 97) (by decide) (by decide) ?_
    refine go_aload e0_86 rfl rfl ?_
    refine go_iloadN e0_88 rfl ?_
    refine go_iconst e0_89 (x := 3) rfl ?_
    refine go_iushr e0_90 ?_
    refine go_iloadN e0_91 rfl ?_
    refine go_iload e0_92 rfl ?_
    refine go_virtualV_3 e0_94 (wd 28 rfl) (wd 29 rfl) (wd 31 rfl) (wd 30 rfl) (wd 32 rfl) (wd 3 rfl) hy_6 pd_11 rfl (c_add hw (k := 1) rfl rfl rfl rfl (by decide) (by decide) (by decide) (by decide) (Nat.le_of_ble_eq_true rfl) (Nat.le_of_ble_eq_true rfl) (Nat.le_of_ble_eq_true rfl) (Nat.le_of_ble_eq_true rfl)) rfl rfl 0 rfl (by decide) (by decide) (by decide) (by decide) ?_
    rintro _ rfl
    try simp only [List.replicate_succ, List.replicate_zero, List.set_cons_zero, List.set_cons_succ, List.length_nil, List.length_cons, Nat.zero_add, Nat.reduceAdd, List.nil_append, List.cons_append]
    refine go_iload e0_97 rfl ?_
    refine go_iconst e0_99 (x := 2) rfl ?_
    refine go_icleN e0_100 (tg := 114) (by decide) (by decide) ?_
    refine go_aload e0_103 rfl rfl ?_
    refine go_iloadN e0_105 rfl ?_
    refine go_iconst e0_106 (x := 3) rfl ?_
    refine go_iushr e0_107 ?_
    refine go_iloadN e0_108 rfl ?_
    refine go_iload e0_109 rfl ?_
    refine go_virtualV_3 e0_111 (wd 28 rfl) (wd 29 rfl) (wd 31 rfl) (wd 30 rfl) (wd 32 rfl) (wd 3 rfl) hy_6 pd_11 rfl (c_add hw (k := 2) rfl rfl rfl rfl (by decide) (by decide) (by decide) (by decide) (Nat.le_of_ble_eq_true rfl) (Nat.le_of_ble_eq_true rfl) (Nat.le_of_ble_eq_true rfl) (Nat.le_of_ble_eq_true rfl)) rfl rfl 0 rfl (by decide) (by decide) (by decide) (by decide) ?_
    rintro _ rfl
    try simp only [List.replicate_succ, List.replicate_zero, List.set_cons_zero, List.set_cons_succ, List.length_nil, List.length_cons, Nat.zero_add, Nat.reduceAdd, List.nil_append, List.cons_append]
    refine go_iload e0_114 rfl ?_
    refine go_iconst e0_116 (x := 3) rfl ?_
    refine go_icleY e0_117 (tg := 132) (by decide) (by decide) ?_
    refine go_aload e0_132 rfl rfl ?_
    refine go_iload e0_134 rfl ?_
    refine go_virtual_1 e0_136 (wd 17 rfl) (wd 18 rfl) (wd 20 rfl) (wd 19 rfl) (wd 21 rfl) (wd 3 rfl) hy_6 pd_8 rfl (c_counts hw (ys := [sa, sb, sc]) (rest := [.int 0, .int 0, .int 0, .int 0, .int 0, .int 0, .int 0, .int 0, .int 0, .int 0, .int 0, .int 0, .int 0]) rfl rfl rfl (Nat.le_of_ble_eq_true rfl) hL hL2 (by intro y hy; simp only [List.mem_cons, List.not_mem_nil, or_false] at hy; rcases hy with rfl | rfl | rfl <;> omega)) rfl rfl 0 rfl (by decide) (by decide) (by decide) (by decide) ?_
    rintro _ _ ⟨rfl, cs, rfl, hcs⟩
    try simp only [List.replicate_succ, List.replicate_zero, List.set_cons_zero, List.set_cons_succ, List.length_nil, List.length_cons, Nat.zero_add, Nat.reduceAdd, List.nil_append, List.cons_append]
    refine go_astore_14 e0_139 rfl rfl ?_
    obtain ⟨zp, hzp, hzv⟩ := hcs.2 kp hkpl
    rw [← own_ofN hkp] at hzv
    simp only [own_cnt] at hzv
    refine go_iload e0_141 rfl ?_
    refine go_ifleN e0_143 (tg := 150) (by decide) (by decide) ?_
    refine go_iconst e0_146 (x := 1) rfl ?_
    refine go_goto e0_147 (tg := 151) (by decide) ?_
    refine go_iload e0_151 rfl ?_
    refine go_iload e0_153 rfl ?_
    refine go_static_3 e0_155 (wd 24 rfl) (wd 25 rfl) (wd 27 rfl) (wd 26 rfl) hy_9 pd_10 rfl (c_hit hw) rfl 0 rfl (by decide) (by decide) (by decide) (by decide) ?_
    rintro _ _ ⟨rfl, rfl⟩
    try simp only [List.replicate_succ, List.replicate_zero, List.set_cons_zero, List.set_cons_succ, List.length_nil, List.length_cons, Nat.zero_add, Nat.reduceAdd, List.nil_append, List.cons_append]
    refine go_iload e0_158 rfl ?_
    refine go_iconst e0_160 (x := 1) rfl ?_
    refine go_icleN e0_161 (tg := 168) (by decide) (by decide) ?_
    refine go_iconst e0_164 (x := 1) rfl ?_
    refine go_goto e0_165 (tg := 169) (by decide) ?_
    refine go_iload e0_169 rfl ?_
    refine go_iload e0_171 rfl ?_
    refine go_static_3 e0_173 (wd 24 rfl) (wd 25 rfl) (wd 27 rfl) (wd 26 rfl) hy_9 pd_10 rfl (c_hit hw) rfl 1 rfl (by decide) (by decide) (by decide) (by decide) ?_
    rintro _ _ ⟨rfl, rfl⟩
    try simp only [List.replicate_succ, List.replicate_zero, List.set_cons_zero, List.set_cons_succ, List.length_nil, List.length_cons, Nat.zero_add, Nat.reduceAdd, List.nil_append, List.cons_append]
    refine go_iadd e0_176 ?_
    refine go_iload e0_177 rfl ?_
    refine go_iconst e0_179 (x := 2) rfl ?_
    refine go_icleN e0_180 (tg := 187) (by decide) (by decide) ?_
    refine go_iconst e0_183 (x := 1) rfl ?_
    refine go_goto e0_184 (tg := 188) (by decide) ?_
    refine go_iload e0_188 rfl ?_
    refine go_iload e0_190 rfl ?_
    refine go_static_3 e0_192 (wd 24 rfl) (wd 25 rfl) (wd 27 rfl) (wd 26 rfl) hy_9 pd_10 rfl (c_hit hw) rfl 1 rfl (by decide) (by decide) (by decide) (by decide) ?_
    rintro _ _ ⟨rfl, rfl⟩
    try simp only [List.replicate_succ, List.replicate_zero, List.set_cons_zero, List.set_cons_succ, List.length_nil, List.length_cons, Nat.zero_add, Nat.reduceAdd, List.nil_append, List.cons_append]
    refine go_iadd e0_195 ?_
    refine go_iload e0_196 rfl ?_
    refine go_iconst e0_198 (x := 3) rfl ?_
    refine go_icleY e0_199 (tg := 206) (by decide) (by decide) ?_
    refine go_iconst e0_206 (x := 0) rfl ?_
    refine go_iload e0_207 rfl ?_
    refine go_iload e0_209 rfl ?_
    refine go_static_3 e0_211 (wd 24 rfl) (wd 25 rfl) (wd 27 rfl) (wd 26 rfl) hy_9 pd_10 rfl (c_hit hw) rfl 1 rfl (by decide) (by decide) (by decide) (by decide) ?_
    rintro _ _ ⟨rfl, rfl⟩
    try simp only [List.replicate_succ, List.replicate_zero, List.set_cons_zero, List.set_cons_succ, List.length_nil, List.length_cons, Nat.zero_add, Nat.reduceAdd, List.nil_append, List.cons_append]
    refine go_iadd e0_214 ?_
    refine go_istoreX_15 e0_215 rfl ?_
    intro ex hex
    refine go_aload e0_217 rfl rfl ?_
    refine go_len e0_219 rfl (n := len) (Int32.toInt_inj.mp (by rw [hcs.1, len_toInt (by omega), hL])) ?_
    refine go_iload e0_220 rfl ?_
    refine go_icneN e0_222 (tg := 239) (by decide) rfl ?_
    refine go_aload e0_225 rfl rfl ?_
    refine go_iload e0_227 rfl ?_
    refine go_iaload e0_229 rfl (k := kp) hkp hzp ?_
    refine go_iload e0_230 rfl ?_
    refine go_icneN e0_232 (tg := 239) (by decide) (by
        apply Int32.toInt_inj.mp
        rw [hzv]
        have t0 : (if sa = probe then 1 else 0 : Int32).toInt = if sa = probe then 1 else 0 := by split <;> rfl
        have t1 : (if sb = probe then 1 else 0 : Int32).toInt = if sb = probe then 1 else 0 := by split <;> rfl
        have t2 : (if sc = probe then 1 else 0 : Int32).toInt = if sc = probe then 1 else 0 := by split <;> rfl
        have u0 : 0 ≤ (if sa = probe then 1 else 0 : Int) ∧ (if sa = probe then 1 else 0 : Int) ≤ 1 := by split <;> omega
        have u1 : 0 ≤ (if sb = probe then 1 else 0 : Int) ∧ (if sb = probe then 1 else 0 : Int) ≤ 1 := by split <;> omega
        have u2 : 0 ≤ (if sc = probe then 1 else 0 : Int) ∧ (if sc = probe then 1 else 0 : Int) ≤ 1 := by split <;> omega
        rw [hex]
        have o1 : ¬ (1 : Int32) = 0 := by decide
        simp only [o1, if_true, if_false]
        have z00 : (0 : Int32).toInt = 0 := rfl
        have s1 := own_sum t0 t1 (by omega) (by omega)
        have s2 := own_sum s1 t2 (by omega) (by omega)
        have s3 := own_sum s2 z00 (by omega) (by omega)
        rw [s3]
        omega) ?_
    refine go_iconst e0_235 (x := 1) rfl ?_
    refine go_goto e0_236 (tg := 240) (by decide) ?_
    refine go_zreturn e0_240 rfl (by decide) (by decide) (by decide) ?_
    exact rfl
  · refine go_new e0_54 (wd 1 rfl) (wd 2 rfl) (wd 3 rfl) (lay_4 hw) nd_5 (by decide) (by decide) ?_
    simp only [List.replicate_succ, List.replicate_zero, List.set_cons_zero, List.set_cons_succ, List.length_nil, List.length_cons, Nat.zero_add, Nat.reduceAdd, List.nil_append, List.cons_append]
    refine go_dup e0_57 rfl ?_
    refine go_specialV_0 rfl e0_58 (wd 4 rfl) (wd 5 rfl) (wd 6 rfl) (wd 3 rfl) hy_6 pd_7 rfl (c_init hw) rfl 1 rfl (by decide) (by decide) (by decide) (by decide) ?_
    rintro _ rfl
    try simp only [List.replicate_succ, List.replicate_zero, List.set_cons_zero, List.set_cons_succ, List.length_nil, List.length_cons, Nat.zero_add, Nat.reduceAdd, List.nil_append, List.cons_append]
    refine go_astore_13 e0_61 rfl rfl ?_
    refine go_iload e0_63 rfl ?_
    refine go_ifleN e0_65 (tg := 80) (by decide) (by decide) ?_
    refine go_aload e0_68 rfl rfl ?_
    refine go_iloadN e0_70 rfl ?_
    refine go_iconst e0_71 (x := 3) rfl ?_
    refine go_iushr e0_72 ?_
    refine go_iload e0_73 rfl ?_
    refine go_iload e0_75 rfl ?_
    refine go_virtualV_3 e0_77 (wd 28 rfl) (wd 29 rfl) (wd 31 rfl) (wd 30 rfl) (wd 32 rfl) (wd 3 rfl) hy_6 pd_11 rfl (c_add hw (k := 0) rfl rfl rfl rfl (by decide) (by decide) (by decide) (by decide) (Nat.le_of_ble_eq_true rfl) (Nat.le_of_ble_eq_true rfl) (Nat.le_of_ble_eq_true rfl) (Nat.le_of_ble_eq_true rfl)) rfl rfl 0 rfl (by decide) (by decide) (by decide) (by decide) ?_
    rintro _ rfl
    try simp only [List.replicate_succ, List.replicate_zero, List.set_cons_zero, List.set_cons_succ, List.length_nil, List.length_cons, Nat.zero_add, Nat.reduceAdd, List.nil_append, List.cons_append]
    refine go_iload e0_80 rfl ?_
    refine go_iconst e0_82 (x := 1) rfl ?_
    refine go_icleN e0_83 (tg := 97) (by decide) (by decide) ?_
    refine go_aload e0_86 rfl rfl ?_
    refine go_iloadN e0_88 rfl ?_
    refine go_iconst e0_89 (x := 3) rfl ?_
    refine go_iushr e0_90 ?_
    refine go_iloadN e0_91 rfl ?_
    refine go_iload e0_92 rfl ?_
    refine go_virtualV_3 e0_94 (wd 28 rfl) (wd 29 rfl) (wd 31 rfl) (wd 30 rfl) (wd 32 rfl) (wd 3 rfl) hy_6 pd_11 rfl (c_add hw (k := 1) rfl rfl rfl rfl (by decide) (by decide) (by decide) (by decide) (Nat.le_of_ble_eq_true rfl) (Nat.le_of_ble_eq_true rfl) (Nat.le_of_ble_eq_true rfl) (Nat.le_of_ble_eq_true rfl)) rfl rfl 0 rfl (by decide) (by decide) (by decide) (by decide) ?_
    rintro _ rfl
    try simp only [List.replicate_succ, List.replicate_zero, List.set_cons_zero, List.set_cons_succ, List.length_nil, List.length_cons, Nat.zero_add, Nat.reduceAdd, List.nil_append, List.cons_append]
    refine go_iload e0_97 rfl ?_
    refine go_iconst e0_99 (x := 2) rfl ?_
    refine go_icleN e0_100 (tg := 114) (by decide) (by decide) ?_
    refine go_aload e0_103 rfl rfl ?_
    refine go_iloadN e0_105 rfl ?_
    refine go_iconst e0_106 (x := 3) rfl ?_
    refine go_iushr e0_107 ?_
    refine go_iloadN e0_108 rfl ?_
    refine go_iload e0_109 rfl ?_
    refine go_virtualV_3 e0_111 (wd 28 rfl) (wd 29 rfl) (wd 31 rfl) (wd 30 rfl) (wd 32 rfl) (wd 3 rfl) hy_6 pd_11 rfl (c_add hw (k := 2) rfl rfl rfl rfl (by decide) (by decide) (by decide) (by decide) (Nat.le_of_ble_eq_true rfl) (Nat.le_of_ble_eq_true rfl) (Nat.le_of_ble_eq_true rfl) (Nat.le_of_ble_eq_true rfl)) rfl rfl 0 rfl (by decide) (by decide) (by decide) (by decide) ?_
    rintro _ rfl
    try simp only [List.replicate_succ, List.replicate_zero, List.set_cons_zero, List.set_cons_succ, List.length_nil, List.length_cons, Nat.zero_add, Nat.reduceAdd, List.nil_append, List.cons_append]
    refine go_iload e0_114 rfl ?_
    refine go_iconst e0_116 (x := 3) rfl ?_
    refine go_icleN e0_117 (tg := 132) (by decide) (by decide) ?_
    refine go_aload e0_120 rfl rfl ?_
    refine go_iload e0_122 rfl ?_
    refine go_iconst e0_124 (x := 3) rfl ?_
    refine go_iushr e0_125 ?_
    refine go_iloadN e0_126 rfl ?_
    refine go_iload e0_127 rfl ?_
    refine go_virtualV_3 e0_129 (wd 28 rfl) (wd 29 rfl) (wd 31 rfl) (wd 30 rfl) (wd 32 rfl) (wd 3 rfl) hy_6 pd_11 rfl (c_add hw (k := 3) rfl rfl rfl rfl (by decide) (by decide) (by decide) (by decide) (Nat.le_of_ble_eq_true rfl) (Nat.le_of_ble_eq_true rfl) (Nat.le_of_ble_eq_true rfl) (Nat.le_of_ble_eq_true rfl)) rfl rfl 0 rfl (by decide) (by decide) (by decide) (by decide) ?_
    rintro _ rfl
    try simp only [List.replicate_succ, List.replicate_zero, List.set_cons_zero, List.set_cons_succ, List.length_nil, List.length_cons, Nat.zero_add, Nat.reduceAdd, List.nil_append, List.cons_append]
    refine go_aload e0_132 rfl rfl ?_
    refine go_iload e0_134 rfl ?_
    refine go_virtual_1 e0_136 (wd 17 rfl) (wd 18 rfl) (wd 20 rfl) (wd 19 rfl) (wd 21 rfl) (wd 3 rfl) hy_6 pd_8 rfl (c_counts hw (ys := [sa, sb, sc, sd]) (rest := [.int 0, .int 0, .int 0, .int 0, .int 0, .int 0, .int 0, .int 0, .int 0, .int 0, .int 0, .int 0]) rfl rfl rfl (Nat.le_of_ble_eq_true rfl) hL hL2 (by intro y hy; simp only [List.mem_cons, List.not_mem_nil, or_false] at hy; rcases hy with rfl | rfl | rfl | rfl <;> omega)) rfl rfl 0 rfl (by decide) (by decide) (by decide) (by decide) ?_
    rintro _ _ ⟨rfl, cs, rfl, hcs⟩
    try simp only [List.replicate_succ, List.replicate_zero, List.set_cons_zero, List.set_cons_succ, List.length_nil, List.length_cons, Nat.zero_add, Nat.reduceAdd, List.nil_append, List.cons_append]
    refine go_astore_14 e0_139 rfl rfl ?_
    obtain ⟨zp, hzp, hzv⟩ := hcs.2 kp hkpl
    rw [← own_ofN hkp] at hzv
    simp only [own_cnt] at hzv
    refine go_iload e0_141 rfl ?_
    refine go_ifleN e0_143 (tg := 150) (by decide) (by decide) ?_
    refine go_iconst e0_146 (x := 1) rfl ?_
    refine go_goto e0_147 (tg := 151) (by decide) ?_
    refine go_iload e0_151 rfl ?_
    refine go_iload e0_153 rfl ?_
    refine go_static_3 e0_155 (wd 24 rfl) (wd 25 rfl) (wd 27 rfl) (wd 26 rfl) hy_9 pd_10 rfl (c_hit hw) rfl 0 rfl (by decide) (by decide) (by decide) (by decide) ?_
    rintro _ _ ⟨rfl, rfl⟩
    try simp only [List.replicate_succ, List.replicate_zero, List.set_cons_zero, List.set_cons_succ, List.length_nil, List.length_cons, Nat.zero_add, Nat.reduceAdd, List.nil_append, List.cons_append]
    refine go_iload e0_158 rfl ?_
    refine go_iconst e0_160 (x := 1) rfl ?_
    refine go_icleN e0_161 (tg := 168) (by decide) (by decide) ?_
    refine go_iconst e0_164 (x := 1) rfl ?_
    refine go_goto e0_165 (tg := 169) (by decide) ?_
    refine go_iload e0_169 rfl ?_
    refine go_iload e0_171 rfl ?_
    refine go_static_3 e0_173 (wd 24 rfl) (wd 25 rfl) (wd 27 rfl) (wd 26 rfl) hy_9 pd_10 rfl (c_hit hw) rfl 1 rfl (by decide) (by decide) (by decide) (by decide) ?_
    rintro _ _ ⟨rfl, rfl⟩
    try simp only [List.replicate_succ, List.replicate_zero, List.set_cons_zero, List.set_cons_succ, List.length_nil, List.length_cons, Nat.zero_add, Nat.reduceAdd, List.nil_append, List.cons_append]
    refine go_iadd e0_176 ?_
    refine go_iload e0_177 rfl ?_
    refine go_iconst e0_179 (x := 2) rfl ?_
    refine go_icleN e0_180 (tg := 187) (by decide) (by decide) ?_
    refine go_iconst e0_183 (x := 1) rfl ?_
    refine go_goto e0_184 (tg := 188) (by decide) ?_
    refine go_iload e0_188 rfl ?_
    refine go_iload e0_190 rfl ?_
    refine go_static_3 e0_192 (wd 24 rfl) (wd 25 rfl) (wd 27 rfl) (wd 26 rfl) hy_9 pd_10 rfl (c_hit hw) rfl 1 rfl (by decide) (by decide) (by decide) (by decide) ?_
    rintro _ _ ⟨rfl, rfl⟩
    try simp only [List.replicate_succ, List.replicate_zero, List.set_cons_zero, List.set_cons_succ, List.length_nil, List.length_cons, Nat.zero_add, Nat.reduceAdd, List.nil_append, List.cons_append]
    refine go_iadd e0_195 ?_
    refine go_iload e0_196 rfl ?_
    refine go_iconst e0_198 (x := 3) rfl ?_
    refine go_icleN e0_199 (tg := 206) (by decide) (by decide) ?_
    refine go_iconst e0_202 (x := 1) rfl ?_
    refine go_goto e0_203 (tg := 207) (by decide) ?_
    refine go_iload e0_207 rfl ?_
    refine go_iload e0_209 rfl ?_
    refine go_static_3 e0_211 (wd 24 rfl) (wd 25 rfl) (wd 27 rfl) (wd 26 rfl) hy_9 pd_10 rfl (c_hit hw) rfl 1 rfl (by decide) (by decide) (by decide) (by decide) ?_
    rintro _ _ ⟨rfl, rfl⟩
    try simp only [List.replicate_succ, List.replicate_zero, List.set_cons_zero, List.set_cons_succ, List.length_nil, List.length_cons, Nat.zero_add, Nat.reduceAdd, List.nil_append, List.cons_append]
    refine go_iadd e0_214 ?_
    refine go_istoreX_15 e0_215 rfl ?_
    intro ex hex
    refine go_aload e0_217 rfl rfl ?_
    refine go_len e0_219 rfl (n := len) (Int32.toInt_inj.mp (by rw [hcs.1, len_toInt (by omega), hL])) ?_
    refine go_iload e0_220 rfl ?_
    refine go_icneN e0_222 (tg := 239) (by decide) rfl ?_
    refine go_aload e0_225 rfl rfl ?_
    refine go_iload e0_227 rfl ?_
    refine go_iaload e0_229 rfl (k := kp) hkp hzp ?_
    refine go_iload e0_230 rfl ?_
    refine go_icneN e0_232 (tg := 239) (by decide) (by
        apply Int32.toInt_inj.mp
        rw [hzv]
        have t0 : (if sa = probe then 1 else 0 : Int32).toInt = if sa = probe then 1 else 0 := by split <;> rfl
        have t1 : (if sb = probe then 1 else 0 : Int32).toInt = if sb = probe then 1 else 0 := by split <;> rfl
        have t2 : (if sc = probe then 1 else 0 : Int32).toInt = if sc = probe then 1 else 0 := by split <;> rfl
        have t3 : (if sd = probe then 1 else 0 : Int32).toInt = if sd = probe then 1 else 0 := by split <;> rfl
        have u0 : 0 ≤ (if sa = probe then 1 else 0 : Int) ∧ (if sa = probe then 1 else 0 : Int) ≤ 1 := by split <;> omega
        have u1 : 0 ≤ (if sb = probe then 1 else 0 : Int) ∧ (if sb = probe then 1 else 0 : Int) ≤ 1 := by split <;> omega
        have u2 : 0 ≤ (if sc = probe then 1 else 0 : Int) ∧ (if sc = probe then 1 else 0 : Int) ≤ 1 := by split <;> omega
        have u3 : 0 ≤ (if sd = probe then 1 else 0 : Int) ∧ (if sd = probe then 1 else 0 : Int) ≤ 1 := by split <;> omega
        rw [hex]
        have o1 : ¬ (1 : Int32) = 0 := by decide
        simp only [o1, if_true, if_false]
        have z00 : (0 : Int32).toInt = 0 := rfl
        have s1 := own_sum t0 t1 (by omega) (by omega)
        have s2 := own_sum s1 t2 (by omega) (by omega)
        have s3 := own_sum s2 t3 (by omega) (by omega)
        rw [s3]
        omega) ?_
    refine go_iconst e0_235 (x := 1) rfl ?_
    refine go_goto e0_236 (tg := 240) (by decide) ?_
    refine go_zreturn e0_240 rfl (by decide) (by decide) (by decide) ?_
    exact rfl
set_option maxRecDepth 65536 in
set_option maxHeartbeats 40000000 in
theorem comes_1 {Post : Tables → Env → Array Value → State → Outcome → State → Prop} (hpost : ∀ tb e args s v u, (limb_1_1.after args s (.returned v) u = true ∧ limb_1_2.after args s (.returned v) u = true ∧ True) → FrameEnd s (.returned v) u (Jvm.fieldLocs frame_1_writes args s ++ Jvm.arrayLocs frame_1_arrays args s ++ Jvm.staticLocs frame_1_statics s) 24 256 → Post tb e args s (.returned v) u) :
    ArmFor flags0 classFile x code maxLocals ret World_1 tables_1 room_1 Calls_1 rest_1 Pre_1 Post := by
  intro l hfl _ _ p e ha hc hk s m args below hf hA hF happ hP
  obtain ⟨hcalls, hrest, hpre⟩ := hP
  obtain ⟨-, -, -, hnamed, -, -, -, hat⟩ := (Spec.applies_iff hf).mp happ
  obtain ⟨hg, hn⟩ := and_e (Cond.before_iff.mp (show (Jvm.Cond.and given_1 narrow_1).before args s = true from hpre))
  obtain ⟨h1, h2⟩ := and_e hg
  obtain ⟨w0, w1, w2, w3, w4, w5, rfl⟩ : ∃ w0 w1 w2 w3 w4 w5 : Value, args = #[w0, w1, w2, w3, w4, w5] := by
    have hs : args.size = 6 := by simpa [Cond.value, given_1] using h1
    obtain ⟨L⟩ := args
    match L, hs with
    | [w0, w1, w2, w3, w4, w5], _ => exact ⟨w0, w1, w2, w3, w4, w5, rfl⟩
  have hw := fun d (hd : d ∈ tables_1) => atoms_spec (ws := Jvm.Cond.code x code maxLocals ret :: tables_1) hat d (List.mem_cons_of_mem _ hd)
  obtain ⟨a0, b0⟩ := and_e h2
  obtain ⟨i0, e0⟩ := is_v a0
  obtain rfl : w0 = (.int i0) := Option.some.inj e0
  obtain ⟨a1, b1⟩ := and_e b0
  obtain ⟨i1, e1⟩ := is_v a1
  obtain rfl : w1 = (.int i1) := Option.some.inj e1
  obtain ⟨a2, b2⟩ := and_e b1
  obtain ⟨i2, e2⟩ := is_v a2
  obtain rfl : w2 = (.int i2) := Option.some.inj e2
  obtain ⟨a3, b3⟩ := and_e b2
  obtain ⟨i3, e3⟩ := is_v a3
  obtain rfl : w3 = (.int i3) := Option.some.inj e3
  obtain ⟨a4, b4⟩ := and_e b3
  obtain ⟨i4, e4⟩ := is_v a4
  obtain rfl : w4 = (.int i4) := Option.some.inj e4
  obtain ⟨i5, e5⟩ := is_v b4
  obtain rfl : w5 = (.int i5) := Option.some.inj e5
  obtain ⟨n, o, h1, h2, h3, _, L, rfl, ⟨N, v', H', rfl, -, rfl⟩, hq⟩ := law_met (l := l) (Z := s) (b := s.heap.size) hw i0 i1 i2 i3 i4 i5 s.heap (Rel.nil s.heap) tables_1 p e ha hc hk s m _ below hf ((Spec.applies_iff_loose hf).mp happ).1 ⟨rfl, State.Warmed39.refl s, rfl⟩ trivial
  refine ⟨n, _, h1, h2, h3, hpost _ _ _ _ _ _ ⟨Cond.after_iff.mpr rfl, Cond.after_iff.mpr (eq_i res_at (Term.int_eval (1)) rfl), trivial⟩ ⟨hq.1, hq.2.1, (hq.2.2.sift fun y hy => Or.inr (N y hy)).mono (by decide) (by decide)⟩⟩
theorem main_1_1 : Claimed_1_1 := comes_1 fun _ _ _ _ _ _ h hF => ⟨h.1, hF⟩
theorem main_1_2 : Claimed_1_2 := comes_1 fun _ _ _ _ _ _ h hF => ⟨h.2.1, hF⟩
end Jvm.Pilot.@@N@@
namespace Jvm.Pilot.@@N@@
open Jvm Jvm.ClassFile Sem Op Lib Jvm.Free Jvm.Stand Jvm.Pilot.@@N@@.Jvm.D
/-! MADE BY PROGRAM (witnessworld.py) out of the Statement's table words and the real class files: 9 classes; the members and pool entries that the words name. The judged class is class 1, her method 1. -/
namespace start1
open Jvm.ClassFile
def u (s : String) : CpInfo := .utf8 (stringToUtf16 s)
/-- a pool by its gaps: so many unusable entries, then the entry; so many at the end -/
def gap : Nat → List CpInfo → List CpInfo
  | 0, r => r
  | n + 1, r => .unusable :: gap n r
def poolList (es : List (Nat × CpInfo)) (last : Nat) : List CpInfo := es.foldr (fun e r => gap e.1 (e.2 :: r)) (gap last [])
def pool (es : List (Nat × CpInfo)) (last : Nat) : Array CpInfo := ⟨poolList es last⟩
def fileOf (pool : Array CpInfo) (this : Nat) (attrs : Array Attribute := #[]) (ms : Array MethodInfo := #[]) (fl : Nat := 33) (sup : Nat := 0) (ifs : Array Nat := #[]) (fds : Array FieldInfo := #[]) : ClassFile where
  minorVersion := 0
  majorVersion := 65
  constantPool := pool
  accessFlags := fl
  thisClass := this
  superClass := sup
  interfaces := ifs
  fields := fds
  methods := ms
  attributes := attrs
def plain (name : String) (sup : Option ClassId) : Class where
  name := name
  kind := .ordinary
  loader := none
  accessFlags := 33
  super := sup
  interfaces := #[]
  cf := none
  fields := #[]
  methods := #[]
  instanceTypes := #[]
  staticTypes := #[]
  resolved := #[]
  callSites := []
  init := .initialized
  statics := none
  mirror := none

def pool0 : Array CpInfo := pool [(5, u "<init>"), (0, u "()V"), (1, .class_ 10), (1, u "java/lang/Object")] 113

def k0c0 : Code := { maxStack := 0, maxLocals := 1, code := object_method_1_code, exceptionTable := #[], attributes := #[] }
def k0m0 : Method := { name := "<init>", desc := "()V", sig := { parameters := [], returnType := none }, accessFlags := 1, code := some k0c0 }
/-- java/lang/Object -/
def k0 : Class := { plain "java/lang/Object" none with
  accessFlags := 33
  interfaces := #[]
  cf := some (fileOf pool0 8 #[] #[{ accessFlags := 1, nameIndex := 5, descriptorIndex := 6, attributes := #[] }] 33 0 #[] #[])
  fields := #[]
  methods := #[k0m0]
  instanceTypes := #[]
  staticTypes := #[]
  resolved := Array.replicate 124 none
  statics := none }

def pool1 : Array CpInfo := pool [(2, .class_ 4), (0, .nameAndType 5 6), (0, u "java/lang/Object"), (0, u "<init>"), (0, u "()V"), (0, .integer 2147483647), (0, .class_ 9), (0, u "com/example/outliers_into_crowds/outliersintocrowds/schedule/Placement"), (0, .methodref 8 3), (0, .methodref 8 12), (0, .nameAndType 13 14), (0, u "add"), (0, u "(III)V"), (0, .methodref 8 16), (0, .nameAndType 17 18), (0, u "counts"), (0, u "(I)[I"), (0, .methodref 20 21), (0, .class_ 22), (0, .nameAndType 23 24), (0, u "com/example/outliers_into_crowds/outliersintocrowds/schedule/PlacementCountsPinLaw"), (0, u "hit"), (0, u "(ZII)I"), (2, u "law"), (0, u "(IIIIII)Z")] 5

def k1m0 : Method := { name := "<init>", desc := "()V", sig := { parameters := [], returnType := none }, accessFlags := 1, code := none }
def k1c1 : Code := { maxStack := 4, maxLocals := 16, code := code, exceptionTable := #[], attributes := #[] }
def k1m1 : Method := { name := "law", desc := "(IIIIII)Z", sig := { parameters := [.int, .int, .int, .int, .int, .int], returnType := some .boolean }, accessFlags := 9, code := some k1c1 }
def k1c2 : Code := { maxStack := 2, maxLocals := 3, code := method_3_code, exceptionTable := #[], attributes := #[] }
def k1m2 : Method := { name := "hit", desc := "(ZII)I", sig := { parameters := [.boolean, .int, .int], returnType := some .int }, accessFlags := 10, code := some k1c2 }
/-- com/example/outliers_into_crowds/outliersintocrowds/schedule/PlacementCountsPinLaw -/
def k1 : Class := { plain "com/example/outliers_into_crowds/outliersintocrowds/schedule/PlacementCountsPinLaw" (some 0) with
  accessFlags := 49
  interfaces := #[]
  cf := some (fileOf pool1 20 #[] #[{ accessFlags := 1, nameIndex := 5, descriptorIndex := 6, attributes := #[] }, { accessFlags := 9, nameIndex := 27, descriptorIndex := 28, attributes := #[] }, { accessFlags := 10, nameIndex := 23, descriptorIndex := 24, attributes := #[] }] 49 2 #[] #[])
  fields := #[]
  methods := #[k1m0, k1m1, k1m2]
  instanceTypes := #[]
  staticTypes := #[]
  resolved := Array.replicate 34 none
  statics := none }

def pool2 : Array CpInfo := pool [(1, .methodref 2 3), (0, .class_ 4), (0, .nameAndType 5 6), (0, u "java/lang/Object"), (0, u "<init>"), (0, u "()V"), (0, .class_ 8), (0, u "com/example/outliers_into_crowds/outliersintocrowds/schedule/Placement"), (0, .fieldref 7 10), (0, .nameAndType 11 12), (0, u "ranks"), (0, u "[I"), (0, .fieldref 7 14), (0, .nameAndType 15 12), (0, u "slots"), (0, .fieldref 7 17), (0, .nameAndType 18 12), (0, u "sizes"), (0, .fieldref 7 20), (0, .nameAndType 21 22), (0, u "count"), (0, u "I"), (8, u "add"), (0, u "(III)V"), (56, u "FIRST_LENGTH"), (10, u "counts"), (0, u "(I)[I")] 6

def k2c0 : Code := { maxStack := 2, maxLocals := 1, code := prog_33_method_1_code, exceptionTable := #[], attributes := #[] }
def k2m0 : Method := { name := "<init>", desc := "()V", sig := { parameters := [], returnType := none }, accessFlags := 0, code := some k2c0 }
def k2c1 : Code := { maxStack := 4, maxLocals := 4, code := prog_33_method_2_code, exceptionTable := #[], attributes := #[] }
def k2m1 : Method := { name := "add", desc := "(III)V", sig := { parameters := [.int, .int, .int], returnType := none }, accessFlags := 0, code := some k2c1 }
def k2c2 : Code := { maxStack := 4, maxLocals := 4, code := prog_33_method_6_code, exceptionTable := #[], attributes := #[] }
def k2m2 : Method := { name := "counts", desc := "(I)[I", sig := { parameters := [.int], returnType := some (.array .int) }, accessFlags := 0, code := some k2c2 }
/-- com/example/outliers_into_crowds/outliersintocrowds/schedule/Placement -/
def k2 : Class := { plain "com/example/outliers_into_crowds/outliersintocrowds/schedule/Placement" (some 0) with
  accessFlags := 32
  interfaces := #[]
  cf := some (fileOf pool2 7 #[] #[{ accessFlags := 0, nameIndex := 5, descriptorIndex := 6, attributes := #[] }, { accessFlags := 0, nameIndex := 31, descriptorIndex := 32, attributes := #[] }, { accessFlags := 0, nameIndex := 100, descriptorIndex := 101, attributes := #[] }] 32 2 #[] #[{ accessFlags := 26, nameIndex := 89, descriptorIndex := 22, attributes := #[] }, { accessFlags := 2, nameIndex := 11, descriptorIndex := 12, attributes := #[] }, { accessFlags := 2, nameIndex := 15, descriptorIndex := 12, attributes := #[] }, { accessFlags := 2, nameIndex := 18, descriptorIndex := 12, attributes := #[] }, { accessFlags := 2, nameIndex := 21, descriptorIndex := 22, attributes := #[] }])
  fields := #[{ name := "FIRST_LENGTH", type := .int, accessFlags := 26, slot := 0, constantValue := 0 }, { name := "ranks", type := (.array .int), accessFlags := 2, slot := 0, constantValue := 0 }, { name := "slots", type := (.array .int), accessFlags := 2, slot := 1, constantValue := 0 }, { name := "sizes", type := (.array .int), accessFlags := 2, slot := 2, constantValue := 0 }, { name := "count", type := .int, accessFlags := 2, slot := 3, constantValue := 0 }]
  methods := #[k2m0, k2m1, k2m2]
  instanceTypes := #[(.array .int), (.array .int), (.array .int), .int]
  staticTypes := #[.int]
  resolved := Array.replicate 108 none
  statics := none }

def pool3 : Array CpInfo := pool [(1, u "java/lang/Cloneable"), (0, .class_ 1), (0, u "java/lang/Object"), (0, .class_ 3)] 3

/-- java/lang/Cloneable -/
def k3 : Class := { plain "java/lang/Cloneable" (some 0) with
  accessFlags := 1537
  interfaces := #[]
  cf := some (fileOf pool3 2 #[] #[] 1537 4 #[] #[])
  fields := #[]
  methods := #[]
  instanceTypes := #[]
  staticTypes := #[]
  resolved := Array.replicate 8 none
  statics := none }

def pool4 : Array CpInfo := pool [(1, u "java/io/Serializable"), (0, .class_ 1), (0, u "java/lang/Object"), (0, .class_ 3)] 3

/-- java/io/Serializable -/
def k4 : Class := { plain "java/io/Serializable" (some 0) with
  accessFlags := 1537
  interfaces := #[]
  cf := some (fileOf pool4 2 #[] #[] 1537 4 #[] #[])
  fields := #[]
  methods := #[]
  instanceTypes := #[]
  staticTypes := #[]
  resolved := Array.replicate 8 none
  statics := none }

/-- the primitive byte -/
def k5 : Class := { plain "byte" none with kind := .primitive 'B', accessFlags := 0x411 }
/-- [B -/
def k6 : Class := { plain "[B" (some 0) with kind := .array 5 .byte, interfaces := #[3, 4], accessFlags := 1041 }

/-- the primitive int -/
def k7 : Class := { plain "int" none with kind := .primitive 'I', accessFlags := 0x411 }
/-- [I -/
def k8 : Class := { plain "[I" (some 0) with kind := .array 7 .int, interfaces := #[3, 4], accessFlags := 1041 }

def heap : Heap := #[]
def classes : Array Class := #[k0, k1, k2, k3, k4, k5, k6, k7, k8]
def interned : List (Array UInt16 × Addr) := []
def slotsUsed : Nat := 0
def theMethod : MethodId := ⟨1, 1⟩
def args0 : Array Value := #[.int 5, .int 2, .int 9, .int 1, .int 4, .int 1]
def aboutOver (below : List Frame) : State where
  vm := { classes := classes, interned := interned.toArray }
  heap := heap
  slotsUsed := slotsUsed
  threads := #[{ frames := .invoking theMethod args0 :: below }]
def below0 : List Frame := [.native { method := ⟨0, 0⟩, args := #[] }]
def about1 : State := aboutOver below0
def p0 : Program := .bare "" "" ""
def e0 : Env := launch0.env 0 0 0
theorem w_frames : about1.frames = Frame.invoking theMethod args0 :: below0 := rfl
set_option maxRecDepth 65536 in
theorem w_args : argsFit about1.vm theMethod args0 = true := by decide +kernel
set_option maxRecDepth 65536 in
theorem w_heap : heapFits about1 = true := by decide +kernel
set_option maxRecDepth 65536 in
theorem w_runnable : about1.curStatus? = some .runnable := by decide +kernel
set_option maxRecDepth 65536 in
theorem w_alone : about1.alone = true := by decide +kernel
set_option maxRecDepth 65536 in
theorem w_named : about1.methodNamed? x = some theMethod := by decide +kernel
set_option maxRecDepth 65536 in
theorem w_hears : about1.hears theMethod below0 = true := by decide +kernel
set_option maxRecDepth 65536 in
theorem w_ripe : about1.ripe theMethod args0 below0 = true := by decide +kernel
theorem w_running : about1.status = .running := rfl
set_option maxRecDepth 65536 in
theorem w_room : about1.hasRoom e0.platform room_1 = true :=
  launch0.hasRoom_least _ room_1 (by decide +kernel) (by decide +kernel) (by decide +kernel) (by decide +kernel) (by decide +kernel) (by decide +kernel)
theorem allAtoms_all (ts : List Jvm.Cond) (a : Array Jvm.Value) (st : Jvm.State) : (allAtoms ts).before a st = ts.all (fun c => c.before a st) := by
  induction ts with
  | nil => rfl
  | cons c t ih =>
    show (Jvm.Cond.and c (allAtoms t)).before a st = _
    rw [Jvm.Cond.before_and, ih, List.all_cons]
def words1 : List Jvm.Cond := Jvm.Cond.code x code maxLocals ret :: tables_1
/-- a 'code' word, met by the world's own term for the bytes: nothing is compared byte by byte -/
theorem code_word {y : MethodName} {bytes : ByteArray} {mx : Nat} {rt : Option FieldType} {a : Array Value} {s : State} {m : MethodId} {meth : Method} {c : Code} (h1 : s.methodNamed? y = some m) (h2 : s.vm.method? m = some meth) (h3 : meth.code = some c) (h4 : c.code = bytes)
    (h5 : (c.maxLocals == mx && c.exceptionTable.isEmpty && decide (c.maxStack ≤ mostOperands) && decide (meth.sig.returnType = rt) && !meth.locks && decide (parseMethodDescriptor y.desc = some meth.sig)) = true) : (Jvm.Cond.code y bytes mx rt).before a s = true := by
  simp only [Bool.and_eq_true, beq_iff_eq, Bool.not_eq_true', decide_eq_true_eq] at h5
  obtain ⟨⟨⟨⟨⟨g1, g2⟩, g3⟩, g4⟩, g5⟩, g6⟩ := h5
  simp [Cond.before, Cond.holds, Cond.value, h1, h2, h3, h4, g1, g2, g3, g4, g5, g6]
def isCode : Jvm.Cond → Bool
  | .code _ _ _ _ => true
  | _ => false
theorem all_split {L : List Jvm.Cond} {P : Jvm.Cond → Bool} (h1 : L.all (fun c => isCode c || P c) = true) (h2 : ∀ c ∈ L.filter isCode, P c = true) : L.all P = true := by
  refine List.all_eq_true.mpr fun c hc => ?_
  have h := List.all_eq_true.mp h1 c hc
  rcases Bool.eq_false_or_eq_true (isCode c) with hi | hi
  · exact h2 c (List.mem_filter.mpr ⟨hc, hi⟩)
  · simpa [hi] using h
set_option maxRecDepth 65536 in
theorem w_c0 : (Jvm.Cond.code x code maxLocals ret).before args0 about1 = true := code_word (m := ⟨1, 1⟩) (meth := k1m1) (c := k1c1) (by decide +kernel) rfl rfl rfl (by decide +kernel)
set_option maxRecDepth 65536 in
theorem w_c1 : (Jvm.Cond.code ({ cls := "com/example/outliers_into_crowds/outliersintocrowds/schedule/Placement", name := "<init>", desc := "()V" } : Jvm.MethodName) prog_33_method_1_code (1 : Nat) (Option.none : Option Jvm.ClassFile.FieldType)).before args0 about1 = true := code_word (m := ⟨2, 0⟩) (meth := k2m0) (c := k2c0) (by decide +kernel) rfl rfl rfl (by decide +kernel)
set_option maxRecDepth 65536 in
theorem w_c2 : (Jvm.Cond.code ({ cls := "java/lang/Object", name := "<init>", desc := "()V" } : Jvm.MethodName) object_method_1_code (1 : Nat) (Option.none : Option Jvm.ClassFile.FieldType)).before args0 about1 = true := code_word (m := ⟨0, 0⟩) (meth := k0m0) (c := k0c0) (by decide +kernel) rfl rfl rfl (by decide +kernel)
set_option maxRecDepth 65536 in
theorem w_c3 : (Jvm.Cond.code ({ cls := "com/example/outliers_into_crowds/outliersintocrowds/schedule/Placement", name := "counts", desc := "(I)[I" } : Jvm.MethodName) prog_33_method_6_code (4 : Nat) (Option.some (Jvm.ClassFile.FieldType.array Jvm.ClassFile.FieldType.int))).before args0 about1 = true := code_word (m := ⟨2, 2⟩) (meth := k2m2) (c := k2c2) (by decide +kernel) rfl rfl rfl (by decide +kernel)
set_option maxRecDepth 65536 in
theorem w_c4 : (Jvm.Cond.code ({ cls := "com/example/outliers_into_crowds/outliersintocrowds/schedule/PlacementCountsPinLaw", name := "hit", desc := "(ZII)I" } : Jvm.MethodName) method_3_code (3 : Nat) (Option.some Jvm.ClassFile.FieldType.int)).before args0 about1 = true := code_word (m := ⟨1, 2⟩) (meth := k1m2) (c := k1c2) (by decide +kernel) rfl rfl rfl (by decide +kernel)
set_option maxRecDepth 65536 in
theorem w_c5 : (Jvm.Cond.code ({ cls := "com/example/outliers_into_crowds/outliersintocrowds/schedule/Placement", name := "add", desc := "(III)V" } : Jvm.MethodName) prog_33_method_2_code (4 : Nat) (Option.none : Option Jvm.ClassFile.FieldType)).before args0 about1 = true := code_word (m := ⟨2, 1⟩) (meth := k2m1) (c := k2c1) (by decide +kernel) rfl rfl rfl (by decide +kernel)
def codes1 : List Jvm.Cond := [Jvm.Cond.code x code maxLocals ret, Jvm.Cond.code ({ cls := "com/example/outliers_into_crowds/outliersintocrowds/schedule/Placement", name := "<init>", desc := "()V" } : Jvm.MethodName) prog_33_method_1_code (1 : Nat) (Option.none : Option Jvm.ClassFile.FieldType), Jvm.Cond.code ({ cls := "java/lang/Object", name := "<init>", desc := "()V" } : Jvm.MethodName) object_method_1_code (1 : Nat) (Option.none : Option Jvm.ClassFile.FieldType), Jvm.Cond.code ({ cls := "com/example/outliers_into_crowds/outliersintocrowds/schedule/Placement", name := "counts", desc := "(I)[I" } : Jvm.MethodName) prog_33_method_6_code (4 : Nat) (Option.some (Jvm.ClassFile.FieldType.array Jvm.ClassFile.FieldType.int)), Jvm.Cond.code ({ cls := "com/example/outliers_into_crowds/outliersintocrowds/schedule/PlacementCountsPinLaw", name := "hit", desc := "(ZII)I" } : Jvm.MethodName) method_3_code (3 : Nat) (Option.some Jvm.ClassFile.FieldType.int), Jvm.Cond.code ({ cls := "com/example/outliers_into_crowds/outliersintocrowds/schedule/Placement", name := "add", desc := "(III)V" } : Jvm.MethodName) prog_33_method_2_code (4 : Nat) (Option.none : Option Jvm.ClassFile.FieldType)]
set_option maxRecDepth 65536 in
theorem codes_eq : words1.filter isCode = codes1 := rfl
theorem w_codes : ∀ c ∈ words1.filter isCode, c.before args0 about1 = true := by
  rw [codes_eq]
  intro c hc
  simp only [codes1, List.mem_cons, List.not_mem_nil, or_false] at hc
  rcases hc with rfl | rfl | rfl | rfl | rfl | rfl
  · exact w_c0
  · exact w_c1
  · exact w_c2
  · exact w_c3
  · exact w_c4
  · exact w_c5
set_option maxRecDepth 65536 in
theorem w_t1 : (words1.take 24).all (fun c => isCode c || c.before args0 about1) = true := by decide +kernel
set_option maxRecDepth 65536 in
theorem w_t2 : (words1.drop 24).all (fun c => isCode c || c.before args0 about1) = true := by decide +kernel
theorem w_tables : (allAtoms (Jvm.Cond.code x code maxLocals ret :: tables_1)).before args0 about1 = true := by
  rw [allAtoms_all]
  show words1.all (fun c => c.before args0 about1) = true
  refine all_split ?_ w_codes
  rw [← List.take_append_drop 24 words1, List.all_append, w_t1, w_t2]
  rfl
set_option maxRecDepth 65536 in
theorem w_case : (Jvm.Cond.and given_1 narrow_1).before args0 about1 = true := by decide +kernel
theorem w_applies : (headSpec (Jvm.Cond.code x code maxLocals ret :: tables_1) room_1).applies x e0.platform about1 = true :=
  (Spec.applies_iff w_frames).mpr ⟨w_running, w_runnable, w_alone, w_named, w_hears, w_ripe, w_room, w_tables⟩
theorem atStart : AtStart classFile x code maxLocals ret World_1 tables_1 room_1 Calls_1 rest_1 Pre_1 launch0 p0 e0 about1 theMethod args0 below0 :=
  ⟨lists_1, trivial, launch0.admits_env _ _ _, launch0.least_env, fairChoices_fair.cas, fairChoices_fair.clock, w_frames, w_args, w_heap, w_applies, trivial, trivial, w_case⟩
end start1
theorem witness_1 : WitnessClaimed_1 := ⟨start1.p0, start1.e0, start1.about1, start1.theMethod, start1.args0, start1.below0, start1.atStart⟩
end Jvm.Pilot.@@N@@
