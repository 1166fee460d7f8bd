import JvmDerived
import JvmDerived.Pilot.@@N@@Statement
import JvmDerived.Pilot.@@N@@Code
set_option linter.unusedVariables false
set_option linter.unusedSimpArgs false
namespace Jvm.RoadKit
open Sem ClassFile Op Lib Jvm.Stand Jvm.Free Jvm.LawKit
section New
variable {p : Program} {l : Launch} {e : Env} {R : Room} {s : State} {m : MethodId} {args : Array Value} {below : List Frame} {meth : Method} {c : Code} {T : State} {locs : List Loc} {cells slots : Nat}
theorem retI (X : Stand p l e R s m args below meth c T locs cells slots) (hx : p.tables.exec = Jvm.exec) {pc : Nat} {Ls : Array Slot} {z : Int32} {rest : List Value} (hret : meth.sig.returnType = some .int) (hd : decode c.code pc = .ok (.ireturn, 1)) {fs : List Frame}
    (hl : ∀ (f : JFrame) (acts : List Action), f.method = m → f.locked = none → f.entered = [] → (doReturn e (T.setTop f) acts (some (.int z))).1 = T.setFrames fs) : Steps p.tables e below (T.setTop (mkF m pc Ls (.int z :: rest))) (T.setFrames fs) := by
  have hm' : T.vm.method? m = some meth := X.method'
  have hn : narrow .int (.int z) = .int z := rfl
  show Steps p.tables e below (T.setTop { method := m, pc := pc, locals := Ls, stack := _ :: rest, locked := none }) _
  jvm_step X.here [X.here.top, hx, hd, hm', hret, hn]
  first | (intro acts; rw [hl _ acts rfl rfl rfl]) | rw [hl _ _ rfl rfl rfl]
  exact Steps.refl _
end New
end Jvm.RoadKit
namespace Jvm.Pilot.@@N@@
namespace Own
open Jvm Jvm.ClassFile Sem Op Lib Jvm.Free Jvm.Stand Jvm.LawKit Jvm.RoadKit Bundle
/-- from this frame on the method comes to an end of which P holds -/
def Run (tb : Tables) (e : Env) (below : List Frame) (P : State → Prop) (T : State) (g : JFrame) : Prop := ∃ t, Steps tb e below (T.setTop g) t ∧ P t
theorem Run.of {tb : Tables} {e : Env} {below : List Frame} {P : State → Prop} {T T' : State} {g g' : JFrame} (st : ∀ target, Steps tb e below (T'.setTop g') target → Steps tb e below (T.setTop g) target) (k : Run tb e below P T' g') : Run tb e below P T g := by
  obtain ⟨t, h, hp⟩ := k; exact ⟨t, st _ h, hp⟩
theorem Run.tr {tb : Tables} {e : Env} {below : List Frame} {P : State → Prop} {T T' : State} {g g' : JFrame} (st : Steps tb e below (T.setTop g) (T'.setTop g')) (k : Run tb e below P T' g') : Run tb e below P T g := by
  obtain ⟨t, h, hp⟩ := k; exact ⟨t, st.trans h, hp⟩
/-- what is kept up while the heap grows and safe cells are written -/
def Cl (Z : State) (Inv : Heap → Prop) (Sf : Heap → Addr → Prop) : Prop :=
  (∀ (h h' : Heap) (ws : List Addr), Keep h h' ws → (∀ x ∈ ws, Sf h x) → Inv h → Inv h' ∧ ∀ x, Sf h x → Sf h' x) ∧
  (∀ (h : Heap) (x : Addr), h.size ≤ x → Sf h x) ∧
  (∀ (h : Heap) (x : Addr) (C : String), Exa Z h x C → C ≠ "java/lang/String" → C ≠ "[B" → Sf h x) ∧
  (∀ (h : Heap) (x : Addr) (c : Cell) (ty : FieldType), Arr Z h x c ty → ty ≠ .byte → Sf h x)
/-- where the walk of a body stands -/
def WP (p : Program) (l : Launch) (e : Env) (R : Room) (s : State) (m : MethodId) (args : Array Value) (below : List Frame) (meth : Method) (c : Code) (Z : State) (own mname : String) (bytes : ByteArray) (maxL : Nat) (ret : Option FieldType) (n0 : Nat) (Inv : Heap → Prop) (Sf : Heap → Addr → Prop) (T : State) (h : Heap) (locs : List Loc) (cells slots : Nat) : Prop :=
  Stand p l e R s m args below meth c T locs cells slots ∧ T.heap = h ∧ Z.Warmed39 s.vm ∧ s.vm.findClass own = some m.cls ∧ Fr n0 locs ∧ Old Z n0 h ∧ Inv h ∧ (p.tables.exec = Jvm.exec ∧ c.code = bytes ∧ c.maxLocals = maxL ∧ meth.sig.returnType = ret ∧ meth.locks = false ∧ meth.name = mname) ∧ Cl Z Inv Sf
theorem ext_keep {h h' : Heap} (E : Ext h h') : Keep h h' [] := (Keep.refl h []).ext E
theorem keep_id (h : Heap) : Keep h h [] := Keep.refl h []
theorem own_n {a b : Nat} (h : a < b) : a < b := h
theorem own_ne {a b : Nat} (h : a < b ∨ b < a) : a ≠ b := by omega
theorem own_ni {a b : Nat} (h : a ≠ b) : a < b ∨ b < a := by omega
theorem fr1 {k : Nat} {a : Addr} {sl : Nat} (q : k ≤ a) : Fr k [(⟨a, sl⟩ : Loc)] := fun y hy => by cases List.mem_singleton.mp hy; exact q
section Kit
variable {p : Program} {l : Launch} {e : Env} {R : Room} {s : State} {m : MethodId} {args : Array Value} {below : List Frame} {meth : Method} {c : Code} {Z : State} {own mname : String} {bytes : ByteArray} {maxL : Nat} {ret : Option FieldType} {n0 : Nat} {Inv : Heap → Prop} {Sf : Heap → Addr → Prop} {T : State} {h : Heap} {locs : List Loc} {cells slots : Nat} {a0 : Array Value} {P : State → Prop} {pc pc' : Nat} {Ls Ls' : Array Slot} {st : List Value}
theorem WP.hx (X : WP p l e R s m args below meth c Z own mname bytes maxL ret n0 Inv Sf T h locs cells slots) : p.tables.exec = Jvm.exec := X.2.2.2.2.2.2.2.1.1
theorem WP.hby (X : WP p l e R s m args below meth c Z own mname bytes maxL ret n0 Inv Sf T h locs cells slots) : c.code = bytes := X.2.2.2.2.2.2.2.1.2.1
theorem WP.hml (X : WP p l e R s m args below meth c Z own mname bytes maxL ret n0 Inv Sf T h locs cells slots) : c.maxLocals = maxL := X.2.2.2.2.2.2.2.1.2.2.1
theorem WP.hret (X : WP p l e R s m args below meth c Z own mname bytes maxL ret n0 Inv Sf T h locs cells slots) : meth.sig.returnType = ret := X.2.2.2.2.2.2.2.1.2.2.2.1
theorem WP.hlk (X : WP p l e R s m args below meth c Z own mname bytes maxL ret n0 Inv Sf T h locs cells slots) : meth.locks = false := X.2.2.2.2.2.2.2.1.2.2.2.2.1
theorem WP.hnm (X : WP p l e R s m args below meth c Z own mname bytes maxL ret n0 Inv Sf T h locs cells slots) : meth.name = mname := X.2.2.2.2.2.2.2.1.2.2.2.2.2
theorem WP.cl (X : WP p l e R s m args below meth c Z own mname bytes maxL ret n0 Inv Sf T h locs cells slots) : Cl Z Inv Sf := X.2.2.2.2.2.2.2.2
theorem WP.inv (X : WP p l e R s m args below meth c Z own mname bytes maxL ret n0 Inv Sf T h locs cells slots) : Inv h := X.2.2.2.2.2.2.1
theorem WP.old (X : WP p l e R s m args below meth c Z own mname bytes maxL ret n0 Inv Sf T h locs cells slots) : Old Z n0 h := X.2.2.2.2.2.1
theorem WP.n0le (X : WP p l e R s m args below meth c Z own mname bytes maxL ret n0 Inv Sf T h locs cells slots) : n0 ≤ h.size := X.old.1 ▸ X.old.2.1
theorem WP.fr (X : WP p l e R s m args below meth c Z own mname bytes maxL ret n0 Inv Sf T h locs cells slots) : Fr n0 locs := X.2.2.2.2.1
theorem WP.hown (X : WP p l e R s m args below meth c Z own mname bytes maxL ret n0 Inv Sf T h locs cells slots) : s.vm.findClass own = some m.cls := X.2.2.2.1
theorem WP.hZ (X : WP p l e R s m args below meth c Z own mname bytes maxL ret n0 Inv Sf T h locs cells slots) : Z.Warmed39 s.vm := X.2.2.1
theorem WP.eT (X : WP p l e R s m args below meth c Z own mname bytes maxL ret n0 Inv Sf T h locs cells slots) : T.heap = h := X.2.1
theorem WP.mv (X : WP p l e R s m args below meth c Z own mname bytes maxL ret n0 Inv Sf T h locs cells slots) {T' : State} {h' : Heap} {locs' : List Loc} {cells' slots' : Nat} (X' : Stand p l e R s m args below meth c T' locs' cells' slots') (e' : T'.heap = h') {ws : List Addr} (K : Keep h h' ws) (hs : ∀ x ∈ ws, Sf h x ∧ n0 ≤ x) (N : Fr n0 locs') : WP p l e R s m args below meth c Z own mname bytes maxL ret n0 Inv Sf T' h' locs' cells' slots' :=
  ⟨X', e', X.hZ, X.hown, N, X.old.keep K (fun x q => (hs x q).2), (X.cl.1 h h' ws K (fun x q => (hs x q).1) X.inv).1, X.2.2.2.2.2.2.2.1, X.cl⟩
theorem WP.same (X : WP p l e R s m args below meth c Z own mname bytes maxL ret n0 Inv Sf T h locs cells slots) {T' : State} (X' : Stand p l e R s m args below meth c T' locs cells slots) (e' : T'.heap = h) : WP p l e R s m args below meth c Z own mname bytes maxL ret n0 Inv Sf T' h locs cells slots := X.mv X' e' (keep_id h) (fun _ q => nomatch q) X.fr
theorem WP.up (X : WP p l e R s m args below meth c Z own mname bytes maxL ret n0 Inv Sf T h locs cells slots) {cells' slots' : Nat} (h1 : cells ≤ cells') (h2 : slots ≤ slots') : WP p l e R s m args below meth c Z own mname bytes maxL ret n0 Inv Sf T h locs cells' slots' :=
  ⟨⟨X.1.admits, X.1.cas, X.1.clock, X.1.frames, X.1.room, X.1.hears, X.1.method, X.1.code, X.1.here, X.1.tail, X.1.warmed, X.1.limits, X.1.bytes, X.1.same.mono h1 h2⟩, X.2⟩
/-- a safe cell stays safe -/
theorem WP.sf (X : WP p l e R s m args below meth c Z own mname bytes maxL ret n0 Inv Sf T h locs cells slots) {h' : Heap} {ws : List Addr} {x : Addr} (K : Keep h h' ws) (hs : ∀ x ∈ ws, Sf h x ∧ n0 ≤ x) (q : Sf h x) : Sf h' x := (X.cl.1 h h' ws K (fun x q => (hs x q).1) X.inv).2 x q
theorem WP.sfN (X : WP p l e R s m args below meth c Z own mname bytes maxL ret n0 Inv Sf T h locs cells slots) {x : Addr} (q : h.size ≤ x) : Sf h x := X.cl.2.1 h x q
theorem WP.sfE (X : WP p l e R s m args below meth c Z own mname bytes maxL ret n0 Inv Sf T h locs cells slots) {x : Addr} {C : String} (E : Exa Z h x C) (h1 : C ≠ "java/lang/String" := by decide) (h2 : C ≠ "[B" := by decide) : Sf h x := X.cl.2.2.1 h x C E h1 h2
theorem WP.sfA (X : WP p l e R s m args below meth c Z own mname bytes maxL ret n0 Inv Sf T h locs cells slots) {x : Addr} {k : ClassId} {ty : FieldType} {z : Int32} {vs : List Value} {d : Value} (A : Arv Z h x k ty z vs d) (h1 : ty ≠ .byte := by decide) : Sf h x := by
  obtain ⟨c, A, -⟩ := A; exact X.cl.2.2.2 h x c ty A h1

theorem k_aloadN (X : WP p l e R s m args below meth c Z own mname bytes maxL ret n0 Inv Sf T h locs cells slots) {k : Fin 4} {v : Value} (hd : decode bytes pc = .ok (.aload_n k, 1)) (hl : Ls[k.val]? = some (.val v)) (hv : v.isRef = true) (hp : pc + 1 = pc') (q : Run p.tables e below P T (mkF m pc' Ls (v :: st))) : Run p.tables e below P T (mkF m pc Ls (st)) := by
  subst hp; exact Run.of (fun _ k => XS.aloadN X.1.here X.hx rfl (hb X.hby hd) hl hv k) q
theorem k_aload (X : WP p l e R s m args below meth c Z own mname bytes maxL ret n0 Inv Sf T h locs cells slots) {k : Nat} {v : Value} (hd : decode bytes pc = .ok (.aload k, 2)) (hl : Ls[k]? = some (.val v)) (hv : v.isRef = true) (hp : pc + 2 = pc') (q : Run p.tables e below P T (mkF m pc' Ls (v :: st))) : Run p.tables e below P T (mkF m pc Ls (st)) := by
  subst hp; exact Run.of (fun _ k => XS.aload X.1.here X.hx rfl (hb X.hby hd) hl hv k) q
theorem k_iloadN (X : WP p l e R s m args below meth c Z own mname bytes maxL ret n0 Inv Sf T h locs cells slots) {k : Fin 4} {v : Int32} (hd : decode bytes pc = .ok (.iload_n k, 1)) (hl : Ls[k.val]? = some (.val (.int v))) (hp : pc + 1 = pc') (q : Run p.tables e below P T (mkF m pc' Ls (.int v :: st))) : Run p.tables e below P T (mkF m pc Ls (st)) := by
  subst hp; exact Run.of (fun _ k => XS.iloadN X.1.here X.hx rfl (hb X.hby hd) hl k) q
theorem k_iload (X : WP p l e R s m args below meth c Z own mname bytes maxL ret n0 Inv Sf T h locs cells slots) {k : Nat} {v : Int32} (hd : decode bytes pc = .ok (.iload k, 2)) (hl : Ls[k]? = some (.val (.int v))) (hp : pc + 2 = pc') (q : Run p.tables e below P T (mkF m pc' Ls (.int v :: st))) : Run p.tables e below P T (mkF m pc Ls (st)) := by
  subst hp; exact Run.of (fun _ k => XS.iload X.1.here X.hx rfl (hb X.hby hd) hl k) q
theorem k_astoreN (X : WP p l e R s m args below meth c Z own mname bytes maxL ret n0 Inv Sf T h locs cells slots) {k : Fin 4} {v : Value} (hd : decode bytes pc = .ok (.astore_n k, 1)) (hv : v.isRef = true) (hl : storeLocals Ls k.val v = some Ls') (hp : pc + 1 = pc') (q : Run p.tables e below P T (mkF m pc' Ls' (st))) : Run p.tables e below P T (mkF m pc Ls (v :: st)) := by
  subst hp; exact Run.of (fun _ k => XS.astoreN X.1.here X.hx rfl (hb X.hby hd) rfl hv hl k) q
theorem k_astore (X : WP p l e R s m args below meth c Z own mname bytes maxL ret n0 Inv Sf T h locs cells slots) {k : Nat} {v : Value} (hd : decode bytes pc = .ok (.astore k, 2)) (hv : v.isRef = true) (hl : storeLocals Ls k v = some Ls') (hp : pc + 2 = pc') (q : Run p.tables e below P T (mkF m pc' Ls' (st))) : Run p.tables e below P T (mkF m pc Ls (v :: st)) := by
  subst hp; exact Run.of (fun _ k => XS.astore X.1.here X.hx rfl (hb X.hby hd) rfl hv hl k) q
theorem k_istoreN (X : WP p l e R s m args below meth c Z own mname bytes maxL ret n0 Inv Sf T h locs cells slots) {k : Fin 4} {v : Int32} (hd : decode bytes pc = .ok (.istore_n k, 1)) (hl : storeLocals Ls k.val (.int v) = some Ls') (hp : pc + 1 = pc') (q : Run p.tables e below P T (mkF m pc' Ls' (st))) : Run p.tables e below P T (mkF m pc Ls (.int v :: st)) := by
  subst hp; exact Run.of (fun _ k => XS.istoreN X.1.here X.hx rfl (hb X.hby hd) rfl hl k) q
theorem k_istore (X : WP p l e R s m args below meth c Z own mname bytes maxL ret n0 Inv Sf T h locs cells slots) {k : Nat} {v : Int32} (hd : decode bytes pc = .ok (.istore k, 2)) (hl : storeLocals Ls k (.int v) = some Ls') (hp : pc + 2 = pc') (q : Run p.tables e below P T (mkF m pc' Ls' (st))) : Run p.tables e below P T (mkF m pc Ls (.int v :: st)) := by
  subst hp; exact Run.of (fun _ k => XS.istore X.1.here X.hx rfl (hb X.hby hd) rfl hl k) q
theorem k_iconst (X : WP p l e R s m args below meth c Z own mname bytes maxL ret n0 Inv Sf T h locs cells slots) {k : Int} {w : Int32} (hd : decode bytes pc = .ok (.iconst k, 1)) (hv : Int32.ofInt k = w) (hp : pc + 1 = pc') (q : Run p.tables e below P T (mkF m pc' Ls (.int w :: st))) : Run p.tables e below P T (mkF m pc Ls (st)) := by
  subst hp; subst hv; exact Run.of (fun _ k => XS.iconst X.1.here X.hx rfl (hb X.hby hd)  k) q
theorem k_bipush (X : WP p l e R s m args below meth c Z own mname bytes maxL ret n0 Inv Sf T h locs cells slots) {k : Int} {w : Int32} (hd : decode bytes pc = .ok (.bipush k, 2)) (hv : (Int8.ofInt k).toInt32 = w) (hp : pc + 2 = pc') (q : Run p.tables e below P T (mkF m pc' Ls (.int w :: st))) : Run p.tables e below P T (mkF m pc Ls (st)) := by
  subst hp; subst hv; exact Run.of (fun _ k => XS.bipush X.1.here X.hx rfl (hb X.hby hd)  k) q
theorem k_sipush (X : WP p l e R s m args below meth c Z own mname bytes maxL ret n0 Inv Sf T h locs cells slots) {k : Int} {w : Int32} (hd : decode bytes pc = .ok (.sipush k, 3)) (hv : (Int16.ofInt k).toInt32 = w) (hp : pc + 3 = pc') (q : Run p.tables e below P T (mkF m pc' Ls (.int w :: st))) : Run p.tables e below P T (mkF m pc Ls (st)) := by
  subst hp; subst hv; exact Run.of (fun _ k => XS.sipush X.1.here X.hx rfl (hb X.hby hd)  k) q
theorem k_aconstNull (X : WP p l e R s m args below meth c Z own mname bytes maxL ret n0 Inv Sf T h locs cells slots)  (hd : decode bytes pc = .ok (.aconst_null, 1))  (hp : pc + 1 = pc') (q : Run p.tables e below P T (mkF m pc' Ls (.null :: st))) : Run p.tables e below P T (mkF m pc Ls (st)) := by
  subst hp; exact Run.of (fun _ k => XS.aconstNull X.1.here X.hx rfl (hb X.hby hd)  k) q
theorem k_iadd (X : WP p l e R s m args below meth c Z own mname bytes maxL ret n0 Inv Sf T h locs cells slots) {x y w : Int32} (hd : decode bytes pc = .ok (.iadd, 1)) (hv : x + y = w) (hp : pc + 1 = pc') (q : Run p.tables e below P T (mkF m pc' Ls (.int w :: st))) : Run p.tables e below P T (mkF m pc Ls (.int y :: .int x :: st)) := by
  subst hp; subst hv; exact Run.of (fun _ k => XS.iadd X.1.here X.hx rfl (hb X.hby hd) rfl k) q
theorem k_isub (X : WP p l e R s m args below meth c Z own mname bytes maxL ret n0 Inv Sf T h locs cells slots) {x y w : Int32} (hd : decode bytes pc = .ok (.isub, 1)) (hv : x - y = w) (hp : pc + 1 = pc') (q : Run p.tables e below P T (mkF m pc' Ls (.int w :: st))) : Run p.tables e below P T (mkF m pc Ls (.int y :: .int x :: st)) := by
  subst hp; subst hv; exact Run.of (fun _ k => XS.isub X.1.here X.hx rfl (hb X.hby hd) rfl k) q
theorem k_imul (X : WP p l e R s m args below meth c Z own mname bytes maxL ret n0 Inv Sf T h locs cells slots) {x y w : Int32} (hd : decode bytes pc = .ok (.imul, 1)) (hv : x * y = w) (hp : pc + 1 = pc') (q : Run p.tables e below P T (mkF m pc' Ls (.int w :: st))) : Run p.tables e below P T (mkF m pc Ls (.int y :: .int x :: st)) := by
  subst hp; subst hv; exact Run.of (fun _ k => XS.imul X.1.here X.hx rfl (hb X.hby hd) rfl k) q
theorem k_iand (X : WP p l e R s m args below meth c Z own mname bytes maxL ret n0 Inv Sf T h locs cells slots) {x y w : Int32} (hd : decode bytes pc = .ok (.iand, 1)) (hv : x &&& y = w) (hp : pc + 1 = pc') (q : Run p.tables e below P T (mkF m pc' Ls (.int w :: st))) : Run p.tables e below P T (mkF m pc Ls (.int y :: .int x :: st)) := by
  subst hp; subst hv; exact Run.of (fun _ k => XS.iand X.1.here X.hx rfl (hb X.hby hd) rfl k) q
theorem k_ior (X : WP p l e R s m args below meth c Z own mname bytes maxL ret n0 Inv Sf T h locs cells slots) {x y w : Int32} (hd : decode bytes pc = .ok (.ior, 1)) (hv : x ||| y = w) (hp : pc + 1 = pc') (q : Run p.tables e below P T (mkF m pc' Ls (.int w :: st))) : Run p.tables e below P T (mkF m pc Ls (.int y :: .int x :: st)) := by
  subst hp; subst hv; exact Run.of (fun _ k => XS.ior X.1.here X.hx rfl (hb X.hby hd) rfl k) q
theorem k_ixor (X : WP p l e R s m args below meth c Z own mname bytes maxL ret n0 Inv Sf T h locs cells slots) {x y w : Int32} (hd : decode bytes pc = .ok (.ixor, 1)) (hv : x ^^^ y = w) (hp : pc + 1 = pc') (q : Run p.tables e below P T (mkF m pc' Ls (.int w :: st))) : Run p.tables e below P T (mkF m pc Ls (.int y :: .int x :: st)) := by
  subst hp; subst hv; exact Run.of (fun _ k => XS.ixor X.1.here X.hx rfl (hb X.hby hd) rfl k) q
theorem k_ishl (X : WP p l e R s m args below meth c Z own mname bytes maxL ret n0 Inv Sf T h locs cells slots) {x y w : Int32} (hd : decode bytes pc = .ok (.ishl, 1)) (hv : (x <<< (y &&& 31)) = w) (hp : pc + 1 = pc') (q : Run p.tables e below P T (mkF m pc' Ls (.int w :: st))) : Run p.tables e below P T (mkF m pc Ls (.int y :: .int x :: st)) := by
  subst hp; subst hv; exact Run.of (fun _ k => XS.ishl X.1.here X.hx rfl (hb X.hby hd) rfl k) q
theorem k_ishr (X : WP p l e R s m args below meth c Z own mname bytes maxL ret n0 Inv Sf T h locs cells slots) {x y w : Int32} (hd : decode bytes pc = .ok (.ishr, 1)) (hv : (x >>> (y &&& 31)) = w) (hp : pc + 1 = pc') (q : Run p.tables e below P T (mkF m pc' Ls (.int w :: st))) : Run p.tables e below P T (mkF m pc Ls (.int y :: .int x :: st)) := by
  subst hp; subst hv; exact Run.of (fun _ k => XS.ishr X.1.here X.hx rfl (hb X.hby hd) rfl k) q
theorem k_iushr (X : WP p l e R s m args below meth c Z own mname bytes maxL ret n0 Inv Sf T h locs cells slots) {x y w : Int32} (hd : decode bytes pc = .ok (.iushr, 1)) (hv : ((x.toUInt32 >>> (y &&& 31).toUInt32).toInt32) = w) (hp : pc + 1 = pc') (q : Run p.tables e below P T (mkF m pc' Ls (.int w :: st))) : Run p.tables e below P T (mkF m pc Ls (.int y :: .int x :: st)) := by
  subst hp; subst hv; exact Run.of (fun _ k => XS.iushr X.1.here X.hx rfl (hb X.hby hd) rfl k) q
theorem k_irem (X : WP p l e R s m args below meth c Z own mname bytes maxL ret n0 Inv Sf T h locs cells slots) {x y w : Int32} (hd : decode bytes pc = .ok (.irem, 1)) (hy : y ≠ 0) (hv : x - (x / y) * y = w) (hp : pc + 1 = pc') (q : Run p.tables e below P T (mkF m pc' Ls (.int w :: st))) : Run p.tables e below P T (mkF m pc Ls (.int y :: .int x :: st)) := by
  subst hp; subst hv; exact Run.of (fun _ k => XS.irem X.1.here X.hx rfl (hb X.hby hd) rfl hy k) q
theorem k_idiv (X : WP p l e R s m args below meth c Z own mname bytes maxL ret n0 Inv Sf T h locs cells slots) {x y w : Int32} (hd : decode bytes pc = .ok (.idiv, 1)) (hy : y ≠ 0) (hv : x / y = w) (hp : pc + 1 = pc') (q : Run p.tables e below P T (mkF m pc' Ls (.int w :: st))) : Run p.tables e below P T (mkF m pc Ls (.int y :: .int x :: st)) := by
  subst hp; subst hv; exact Run.of (fun _ k => XS.idiv X.1.here X.hx rfl (hb X.hby hd) rfl hy k) q
theorem k_ineg (X : WP p l e R s m args below meth c Z own mname bytes maxL ret n0 Inv Sf T h locs cells slots) {x w : Int32} (hd : decode bytes pc = .ok (.ineg, 1)) (hv : -x = w) (hp : pc + 1 = pc') (q : Run p.tables e below P T (mkF m pc' Ls (.int w :: st))) : Run p.tables e below P T (mkF m pc Ls (.int x :: st)) := by
  subst hp; subst hv; exact Run.of (fun _ k => XS.ineg X.1.here X.hx rfl (hb X.hby hd) rfl k) q
theorem k_i2c (X : WP p l e R s m args below meth c Z own mname bytes maxL ret n0 Inv Sf T h locs cells slots) {x w : Int32} (hd : decode bytes pc = .ok (.i2c, 1)) (hv : x.toUInt32.toUInt16.toUInt32.toInt32 = w) (hp : pc + 1 = pc') (q : Run p.tables e below P T (mkF m pc' Ls (.int w :: st))) : Run p.tables e below P T (mkF m pc Ls (.int x :: st)) := by
  subst hp; subst hv; exact Run.of (fun _ k => XS.i2c X.1.here X.hx rfl (hb X.hby hd) rfl k) q
theorem k_i2b (X : WP p l e R s m args below meth c Z own mname bytes maxL ret n0 Inv Sf T h locs cells slots) {x w : Int32} (hd : decode bytes pc = .ok (.i2b, 1)) (hv : x.toInt8.toInt32 = w) (hp : pc + 1 = pc') (q : Run p.tables e below P T (mkF m pc' Ls (.int w :: st))) : Run p.tables e below P T (mkF m pc Ls (.int x :: st)) := by
  subst hp; subst hv; exact Run.of (fun _ k => XS.i2b X.1.here X.hx rfl (hb X.hby hd) rfl k) q
theorem k_iinc (X : WP p l e R s m args below meth c Z own mname bytes maxL ret n0 Inv Sf T h locs cells slots) {k : Nat} {cst : Int} {x w : Int32} (hd : decode bytes pc = .ok (.iinc k cst, 3)) (hl : Ls[k]? = some (.val (.int x))) (hv : x + Int32.ofInt cst = w) (hl' : storeLocals Ls k (.int w) = some Ls') (hp : pc + 3 = pc') (q : Run p.tables e below P T (mkF m pc' Ls' (st))) : Run p.tables e below P T (mkF m pc Ls (st)) := by
  subst hp; subst hv; exact Run.of (fun _ k => XS.iinc X.1.here X.hx rfl (hb X.hby hd) hl hl' k) q
theorem k_dup (X : WP p l e R s m args below meth c Z own mname bytes maxL ret n0 Inv Sf T h locs cells slots) {v : Value} (hd : decode bytes pc = .ok (.dup, 1)) (hc : v.category = 1) (hp : pc + 1 = pc') (q : Run p.tables e below P T (mkF m pc' Ls (v :: v :: st))) : Run p.tables e below P T (mkF m pc Ls (v :: st)) := by
  subst hp; exact Run.of (fun _ k => XS.dup X.1.here X.hx rfl (hb X.hby hd) rfl hc k) q
theorem k_pop (X : WP p l e R s m args below meth c Z own mname bytes maxL ret n0 Inv Sf T h locs cells slots) {v : Value} (hd : decode bytes pc = .ok (.pop, 1)) (hc : v.category = 1) (hp : pc + 1 = pc') (q : Run p.tables e below P T (mkF m pc' Ls (st))) : Run p.tables e below P T (mkF m pc Ls (v :: st)) := by
  subst hp; exact Run.of (fun _ k => XS.pop X.1.here X.hx rfl (hb X.hby hd) rfl hc k) q
theorem k_goto (X : WP p l e R s m args below meth c Z own mname bytes maxL ret n0 Inv Sf T h locs cells slots) {o : Int} (hd : decode bytes pc = .ok (.goto o, 3))  (ho : 0 ≤ (pc : Int) + o) (hp : ((pc : Int) + o).toNat = pc') (q : Run p.tables e below P T (mkF m pc' Ls (st))) : Run p.tables e below P T (mkF m pc Ls (st)) := by
  exact Run.of (fun _ k => XS.goto X.1.here X.hx rfl (pc0 := pc) (pc' := pc') rfl (hb X.hby hd)  ho hp k) q
theorem k_ifYes (X : WP p l e R s m args below meth c Z own mname bytes maxL ret n0 Inv Sf T h locs cells slots) {cd : ClassFile.Cond} {o : Int} {x : Int32} (hd : decode bytes pc = .ok (.ifCond cd o, 3)) (hc : ifCond.holds cd x = true) (ho : 0 ≤ (pc : Int) + o) (hp : ((pc : Int) + o).toNat = pc') (q : Run p.tables e below P T (mkF m pc' Ls (st))) : Run p.tables e below P T (mkF m pc Ls (.int x :: st)) := by
  exact Run.of (fun _ k => XS.ifYes X.1.here X.hx rfl (pc0 := pc) (pc' := pc') rfl (hb X.hby hd) rfl hc ho hp k) q
theorem k_ifNo (X : WP p l e R s m args below meth c Z own mname bytes maxL ret n0 Inv Sf T h locs cells slots) {cd : ClassFile.Cond} {o : Int} {x : Int32} (hd : decode bytes pc = .ok (.ifCond cd o, 3)) (hc : ifCond.holds cd x = false) (hp : pc + 3 = pc') (q : Run p.tables e below P T (mkF m pc' Ls (st))) : Run p.tables e below P T (mkF m pc Ls (.int x :: st)) := by
  subst hp; exact Run.of (fun _ k => XS.ifNo X.1.here X.hx rfl (hb X.hby hd) rfl hc k) q
theorem k_icmpYes (X : WP p l e R s m args below meth c Z own mname bytes maxL ret n0 Inv Sf T h locs cells slots) {cd : ClassFile.Cond} {o : Int} {x y : Int32} (hd : decode bytes pc = .ok (.if_icmp cd o, 3)) (hc : if_icmp.holds cd x y = true) (ho : 0 ≤ (pc : Int) + o) (hp : ((pc : Int) + o).toNat = pc') (q : Run p.tables e below P T (mkF m pc' Ls (st))) : Run p.tables e below P T (mkF m pc Ls (.int y :: .int x :: st)) := by
  exact Run.of (fun _ k => XS.icmpYes X.1.here X.hx rfl (pc0 := pc) (pc' := pc') rfl (hb X.hby hd) rfl hc ho hp k) q
theorem k_icmpNo (X : WP p l e R s m args below meth c Z own mname bytes maxL ret n0 Inv Sf T h locs cells slots) {cd : ClassFile.Cond} {o : Int} {x y : Int32} (hd : decode bytes pc = .ok (.if_icmp cd o, 3)) (hc : if_icmp.holds cd x y = false) (hp : pc + 3 = pc') (q : Run p.tables e below P T (mkF m pc' Ls (st))) : Run p.tables e below P T (mkF m pc Ls (.int y :: .int x :: st)) := by
  subst hp; exact Run.of (fun _ k => XS.icmpNo X.1.here X.hx rfl (hb X.hby hd) rfl hc k) q
theorem k_ifnullYes (X : WP p l e R s m args below meth c Z own mname bytes maxL ret n0 Inv Sf T h locs cells slots) {o : Int} (hd : decode bytes pc = .ok (.ifnull o, 3))  (ho : 0 ≤ (pc : Int) + o) (hp : ((pc : Int) + o).toNat = pc') (q : Run p.tables e below P T (mkF m pc' Ls (st))) : Run p.tables e below P T (mkF m pc Ls (.null :: st)) := by
  exact Run.of (fun _ k => XS.ifnullYes X.1.here X.hx rfl (pc0 := pc) (pc' := pc') rfl (hb X.hby hd) rfl ho hp k) q
theorem k_ifnullNo (X : WP p l e R s m args below meth c Z own mname bytes maxL ret n0 Inv Sf T h locs cells slots) {o : Int} {a : Addr} (hd : decode bytes pc = .ok (.ifnull o, 3))  (hp : pc + 3 = pc') (q : Run p.tables e below P T (mkF m pc' Ls (st))) : Run p.tables e below P T (mkF m pc Ls (.ref a :: st)) := by
  subst hp; exact Run.of (fun _ k => XS.ifnullNo X.1.here X.hx rfl (hb X.hby hd) rfl k) q
theorem k_ifnonnullYes (X : WP p l e R s m args below meth c Z own mname bytes maxL ret n0 Inv Sf T h locs cells slots) {o : Int} {a : Addr} (hd : decode bytes pc = .ok (.ifnonnull o, 3))  (ho : 0 ≤ (pc : Int) + o) (hp : ((pc : Int) + o).toNat = pc') (q : Run p.tables e below P T (mkF m pc' Ls (st))) : Run p.tables e below P T (mkF m pc Ls (.ref a :: st)) := by
  exact Run.of (fun _ k => XS.ifnonnullYes X.1.here X.hx rfl (pc0 := pc) (pc' := pc') rfl (hb X.hby hd) rfl ho hp k) q
theorem k_ifnonnullNo (X : WP p l e R s m args below meth c Z own mname bytes maxL ret n0 Inv Sf T h locs cells slots) {o : Int} (hd : decode bytes pc = .ok (.ifnonnull o, 3))  (hp : pc + 3 = pc') (q : Run p.tables e below P T (mkF m pc' Ls (st))) : Run p.tables e below P T (mkF m pc Ls (.null :: st)) := by
  subst hp; exact Run.of (fun _ k => XS.ifnonnullNo X.1.here X.hx rfl (hb X.hby hd) rfl k) q
theorem k_acmp (X : WP p l e R s m args below meth c Z own mname bytes maxL ret n0 Inv Sf T h locs cells slots) {cd : ACond} {x y : Value} {o : Int} (same : Bool) (hd : decode bytes pc = .ok (.if_acmp cd o, 3)) (h1 : x.isRef = true) (h2 : y.isRef = true) (hq : decide (x = y) = same) (ho : 0 ≤ (pc : Int) + o) (hp : pc' = if acV cd same = true then ((pc : Int) + o).toNat else pc + 3) (q : Run p.tables e below P T (mkF m pc' Ls st)) : Run p.tables e below P T (mkF m pc Ls (y :: x :: st)) :=
  Run.of (fun _ k => Jvm.RoadKit.acmp (g := mkF m pc Ls (y :: x :: st)) X.1 X.hx rfl h1 h2 (pc0 := pc) (pc' := pc') (same := same) rfl (hb X.hby hd) rfl hq ho hp k) q
theorem k_getF (X : WP p l e R s m args below meth c Z own mname bytes maxL ret n0 Inv Sf T h locs cells slots) {R0 O n d host : String} {index : Nat} {a : Addr} {v : Value} (hd : decode bytes pc = .ok (.getfield index, 3)) (w : (Cond.fieldLink own index R0 n d).before a0 Z = true ∨ (Cond.fieldLinkNest own index R0 n d host).before a0 Z = true) (via : Via Z R0 O n d) (F : Fld Z h a O n d v) (hp : pc + 3 = pc')
    (q : ∀ T', WP p l e R s m args below meth c Z own mname bytes maxL ret n0 Inv Sf T' h locs cells slots → Run p.tables e below P T' (mkF m pc' Ls (v :: st))) : Run p.tables e below P T (mkF m pc Ls (.ref a :: st)) := by
  subst hp
  obtain ⟨T', X', e', k⟩ := Jvm.RoadKit.getF X.1 X.hx X.hZ X.hown w via X.eT F (g := mkF m pc Ls (.ref a :: st)) rfl rfl (hb X.hby hd)
  exact Run.of k (q T' (X.same X' e'))
theorem k_getS (X : WP p l e R s m args below meth c Z own mname bytes maxL ret n0 Inv Sf T h locs cells slots) {R0 O n d host : String} {index : Nat} {v : Value} (hd : decode bytes pc = .ok (.getstatic index, 3)) (w : (Cond.fieldLink own index R0 n d).before a0 Z = true ∨ (Cond.fieldLinkNest own index R0 n d host).before a0 Z = true) (via : Via Z R0 O n d) (F : Sta Z h O n d v) (hp : pc + 3 = pc')
    (q : ∀ T', WP p l e R s m args below meth c Z own mname bytes maxL ret n0 Inv Sf T' h locs cells slots → Run p.tables e below P T' (mkF m pc' Ls (v :: st))) : Run p.tables e below P T (mkF m pc Ls st) := by
  subst hp
  obtain ⟨T', X', e', k⟩ := Jvm.RoadKit.getS2 X.1 X.hx X.hZ X.hown w via X.eT F (g := mkF m pc Ls st) rfl (hb X.hby hd)
  exact Run.of k (q T' (X.same X' e'))
theorem k_putF (X : WP p l e R s m args below meth c Z own mname bytes maxL ret n0 Inv Sf T h locs cells slots) {R0 O n d host C : String} {index kk : Nat} {ty : FieldType} {a : Addr} {v old : Value} (hd : decode bytes pc = .ok (.putfield index, 3)) (w : (Cond.fieldLink own index R0 n d).before a0 Z = true ∨ (Cond.fieldLinkNest own index R0 n d host).before a0 Z = true) (via : Via Z R0 O n d) (F : Fld Z h a O n d old) (E : Exa Z h a C)
    (L : (Cond.lays C O n d).before a0 Z = true ∨ ((Cond.laysFinal C O n d).before a0 Z = true ∧ own = O ∧ meth.name = "<init>")) (wi : (Cond.instantiable C kk).before a0 Z = true) (hty : parseFieldDescriptor d = some ty) (hn : narrow ty v = v) (hf : fits ty v = true) (hsf : Sf h a) (hge : n0 ≤ a) (hp : pc + 3 = pc')
    (q : ∀ T' h' L', WP p l e R s m args below meth c Z own mname bytes maxL ret n0 Inv Sf T' h' L' cells slots → Wr h h' a (Jvm.RoadKit.slotOf Z O n d) v → Keep h h' [a] → Run p.tables e below P T' (mkF m pc' Ls st)) : Run p.tables e below P T (mkF m pc Ls (v :: .ref a :: st)) := by
  subst hp
  obtain ⟨T', h', X', e', W, k⟩ := Jvm.RoadKit.putF X.1 X.hx X.hZ X.hown w via X.eT F E L wi hty hn hf (g := mkF m pc Ls (v :: .ref a :: st)) rfl rfl (hb X.hby hd)
  have K := Keep.of_wr W
  exact Run.of k (q T' h' _ (X.mv X' e' K (allS ⟨hsf, hge⟩ all0) (X.fr.app (fr1 hge))) W K)
theorem k_newO (X : WP p l e R s m args below meth c Z own mname bytes maxL ret n0 Inv Sf T h locs cells slots) {C : String} {index n : Nat} (hd : decode bytes pc = .ok (.new index, 3)) (w : (Cond.classLink own index C).before a0 Z = true) (wi : (Cond.instantiable C n).before a0 Z = true) (wz : (Cond.initialized C).before a0 Z = true) (hc : cells + 1 ≤ R.cells) (hl : slots + n ≤ R.slots) (hp : pc + 3 = pc')
    (q : ∀ T' h' (b : Nat), b = h.size → WP p l e R s m args below meth c Z own mname bytes maxL ret n0 Inv Sf T' h' locs (cells + 1) (slots + n) → Keep h h' [] → Exa Z h' b C → (∀ {O nm d : String} {ty : FieldType}, Laid Z a0 C O nm d → parseFieldDescriptor d = some ty → Fld Z h' b O nm d (defaultValue ty)) → Sf h' b → b < h'.size → n0 ≤ b → Run p.tables e below P T' (mkF m pc' Ls (.ref b :: st))) : Run p.tables e below P T (mkF m pc Ls st) := by
  subst hp
  obtain ⟨T', h', X', e', E, A, D, -, k⟩ := Jvm.RoadKit.newO X.1 X.hx X.hZ X.hown w wi wz X.eT (g := mkF m pc Ls st) rfl (hb X.hby hd) hc hl
  have K := ext_keep E
  exact Run.of k (q T' h' h.size rfl (X.mv X' e' K (fun _ q => nomatch q) X.fr) K A (fun L t => D L t) (X.sf K (fun _ q => nomatch q) (X.sfN (Nat.le_refl _))) (own_n A.lt) X.n0le)
theorem k_newP (X : WP p l e R s m args below meth c Z own mname bytes maxL ret n0 Inv Sf T h locs cells slots) {aty : ArrayType} {n : Int32} {cap : Nat} (hd : decode bytes pc = .ok (.newarray aty, 2)) (w : (Cond.arrayClass (newarray.typeOf aty)).before a0 Z = true) (hn : ¬ n < 0) (hcap : n.toNatClampNeg ≤ cap) (hb' : cap * 8 ≤ 536870912) (hc : cells + 1 ≤ R.cells) (hl : slots + cap ≤ R.slots) (hp : pc + 2 = pc')
    (q : ∀ T' h' (b : Nat) k, b = h.size → WP p l e R s m args below meth c Z own mname bytes maxL ret n0 Inv Sf T' h' locs (cells + 1) (slots + cap) → Keep h h' [] → Arv Z h' b k (newarray.typeOf aty) n [] (defaultValue (newarray.typeOf aty)) → Sf h' b → b < h'.size → n0 ≤ b → Run p.tables e below P T' (mkF m pc' Ls (.ref b :: st))) : Run p.tables e below P T (mkF m pc Ls (.int n :: st)) := by
  subst hp
  obtain ⟨T', h', cA, X', e', E, A, k⟩ := Jvm.RoadKit.newP X.1 X.hx X.hZ w X.eT (g := mkF m pc Ls (.int n :: st)) rfl (hb X.hby hd) rfl hn hcap hb' hc hl
  have K := ext_keep E
  exact Run.of k (q T' h' h.size cA rfl (X.mv X' e' K (fun _ q => nomatch q) X.fr) K (Arv.new A hn) (X.sf K (fun _ q => nomatch q) (X.sfN (Nat.le_refl _))) (own_n A.lt) X.n0le)
theorem k_arlen (X : WP p l e R s m args below meth c Z own mname bytes maxL ret n0 Inv Sf T h locs cells slots) {a : Addr} {k : ClassId} {ty : FieldType} {z : Int32} {vs : List Value} {d : Value} (hd : decode bytes pc = .ok (.arraylength, 1)) (A : Arv Z h a k ty z vs d) (hp : pc + 1 = pc') (q : Run p.tables e below P T (mkF m pc' Ls (.int z :: st))) : Run p.tables e below P T (mkF m pc Ls (.ref a :: st)) := by
  subst hp
  obtain ⟨cl, A, -, S, N, -, -⟩ := A
  refine Run.of (X.1.arraylength X.hx (by rw [X.eT]; exact A.1) (State.isArrayOf_alike X.hZ.alike A.2.1) (g := mkF m pc Ls (.ref a :: st)) rfl rfl (hb X.hby hd)) ?_
  rw [len_of S N]; exact q
theorem k_initO (X : WP p l e R s m args below meth c Z own mname bytes maxL ret n0 Inv Sf T h locs cells slots) {idx W : Nat} {a : Addr} (hd : decode bytes pc = .ok (.invokespecial idx, 3)) (w1 : (Cond.methodLink own idx Lib.objectInit).before a0 Z = true) (w2 : (Cond.instanceMethod Lib.objectInit).before a0 Z = true) (w3 : (Cond.code Lib.objectInit ⟨#[0xb1]⟩ 1 none).before a0 Z = true)
    (hsz : Ls.size = maxL) (hf : 1 ≤ R.frames) (hW : (st.map fun v => v.category).sum ≤ W) (hl : W + 12 ≤ R.locals) (hp : pc + 3 = pc')
    (q : ∀ T', WP p l e R s m args below meth c Z own mname bytes maxL ret n0 Inv Sf T' h locs cells slots → Run p.tables e below P T' (mkF m pc' Ls st)) : Run p.tables e below P T (mkF m pc Ls (.ref a :: st)) := by
  subst hp
  obtain ⟨T', X', e', k⟩ := Jvm.RoadKit.initO X.1 X.hx X.hZ X.hown w1 w2 w3 X.eT (g := mkF m pc Ls (.ref a :: st)) rfl (by rw [X.hml]; exact hsz) rfl (hb X.hby hd) hf (W := W) (by show 2 * 0 + _ ≤ _; omega) hl
  exact Run.of k (q T' (X.same X' e'))
theorem k_castY (X : WP p l e R s m args below meth c Z own mname bytes maxL ret n0 Inv Sf T h locs cells slots) {K : String} {index : Nat} {a : Addr} (hd : decode bytes pc = .ok (.checkcast index, 3)) (w : (Cond.classLink own index K).before a0 Z = true) (F : Ins Z h a K true) (hp : pc + 3 = pc')
    (q : ∀ T', WP p l e R s m args below meth c Z own mname bytes maxL ret n0 Inv Sf T' h locs cells slots → Run p.tables e below P T' (mkF m pc' Ls (.ref a :: st))) : Run p.tables e below P T (mkF m pc Ls (.ref a :: st)) := by
  subst hp
  obtain ⟨T', X', e', k⟩ := Jvm.RoadKit.castY X.1 X.hx X.hZ X.hown w X.eT F (g := mkF m pc Ls (.ref a :: st)) rfl rfl (hb X.hby hd)
  exact Run.of k (q T' (X.same X' e'))
theorem k_instY (X : WP p l e R s m args below meth c Z own mname bytes maxL ret n0 Inv Sf T h locs cells slots) {K : String} {index : Nat} {a : Addr} (hd : decode bytes pc = .ok (.instanceof index, 3)) (w : (Cond.classLink own index K).before a0 Z = true) (F : Ins Z h a K true) (hp : pc + 3 = pc')
    (q : ∀ T', WP p l e R s m args below meth c Z own mname bytes maxL ret n0 Inv Sf T' h locs cells slots → Run p.tables e below P T' (mkF m pc' Ls (.int 1 :: st))) : Run p.tables e below P T (mkF m pc Ls (.ref a :: st)) := by
  subst hp
  obtain ⟨T', X', e', k⟩ := Jvm.RoadKit.instY X.1 X.hx X.hZ X.hown w X.eT F (g := mkF m pc Ls (.ref a :: st)) rfl rfl (hb X.hby hd)
  exact Run.of k (q T' (X.same X' e'))
theorem k_castore (X : WP p l e R s m args below meth c Z own mname bytes maxL ret n0 Inv Sf T h locs cells slots) {a : Addr} {k : ClassId} {z j x w : Int32} {vs : List Value} {d : Value} (i : Nat) (hd : decode bytes pc = .ok (.castore, 1)) (A : Arv Z h a k .char z vs d) (hj0 : ¬ j < 0) (hjz : j < z) (hj : j.toNatClampNeg = i) (hi : i < vs.length) (hw : nar .char x = w) {vs' : List Value} (hvs : vs.set i (.int w) = vs') (hsf : Sf h a) (hge : n0 ≤ a) (hp : pc + 1 = pc')
    (q : ∀ T' h' L', WP p l e R s m args below meth c Z own mname bytes maxL ret n0 Inv Sf T' h' L' cells slots → Keep h h' [a] → Arv Z h' a k .char z vs' d → Run p.tables e below P T' (mkF m pc' Ls st)) : Run p.tables e below P T (mkF m pc Ls (.int x :: .int j :: .ref a :: st)) := by
  subst hp hw hvs
  obtain ⟨cl, A, q1, S, N, H, G⟩ := A
  obtain ⟨T', h', X', e', W, kk⟩ := Jvm.RoadKit.stC X.1 X.hx X.hZ X.eT A (j := j) (inb_of S ⟨hj0, hjz⟩) (g := mkF m pc Ls (.int x :: .int j :: .ref a :: st)) rfl rfl (hb X.hby hd)
  have K := Keep.of_wr W
  exact Run.of kk (q T' h' _ (X.mv X' e' K (allS ⟨hsf, hge⟩ all0) (X.fr.app (fr1 hge))) K (Arv.set A q1 S N H G (fits_nar_char _) W i hj hi))
theorem k_bastore (X : WP p l e R s m args below meth c Z own mname bytes maxL ret n0 Inv Sf T h locs cells slots) {a : Addr} {k : ClassId} {z j x w : Int32} {vs : List Value} {d : Value} (i : Nat) (hd : decode bytes pc = .ok (.bastore, 1)) (A : Arv Z h a k .byte z vs d) (hj0 : ¬ j < 0) (hjz : j < z) (hj : j.toNatClampNeg = i) (hi : i < vs.length) (hw : nar .byte x = w) {vs' : List Value} (hvs : vs.set i (.int w) = vs') (hsf : Sf h a) (hge : n0 ≤ a) (hp : pc + 1 = pc')
    (q : ∀ T' h' L', WP p l e R s m args below meth c Z own mname bytes maxL ret n0 Inv Sf T' h' L' cells slots → Keep h h' [a] → Arv Z h' a k .byte z vs' d → Run p.tables e below P T' (mkF m pc' Ls st)) : Run p.tables e below P T (mkF m pc Ls (.int x :: .int j :: .ref a :: st)) := by
  subst hp hw hvs
  obtain ⟨cl, A, q1, S, N, H, G⟩ := A
  obtain ⟨T', h', X', e', W, kk⟩ := Jvm.RoadKit.stB X.1 X.hx X.hZ X.eT A (j := j) (inb_of S ⟨hj0, hjz⟩) (g := mkF m pc Ls (.int x :: .int j :: .ref a :: st)) rfl rfl (hb X.hby hd)
  have K := Keep.of_wr W
  exact Run.of kk (q T' h' _ (X.mv X' e' K (allS ⟨hsf, hge⟩ all0) (X.fr.app (fr1 hge))) K (Arv.set A q1 S N H G (fits_nar_byte _) W i hj hi))
theorem k_iastore (X : WP p l e R s m args below meth c Z own mname bytes maxL ret n0 Inv Sf T h locs cells slots) {a : Addr} {k : ClassId} {z j x w : Int32} {vs : List Value} {d : Value} (i : Nat) (hd : decode bytes pc = .ok (.iastore, 1)) (A : Arv Z h a k .int z vs d) (hj0 : ¬ j < 0) (hjz : j < z) (hj : j.toNatClampNeg = i) (hi : i < vs.length) (hw : x = w) {vs' : List Value} (hvs : vs.set i (.int w) = vs') (hsf : Sf h a) (hge : n0 ≤ a) (hp : pc + 1 = pc')
    (q : ∀ T' h' L', WP p l e R s m args below meth c Z own mname bytes maxL ret n0 Inv Sf T' h' L' cells slots → Keep h h' [a] → Arv Z h' a k .int z vs' d → Run p.tables e below P T' (mkF m pc' Ls st)) : Run p.tables e below P T (mkF m pc Ls (.int x :: .int j :: .ref a :: st)) := by
  subst hp hw hvs
  obtain ⟨cl, A, q1, S, N, H, G⟩ := A
  obtain ⟨T', h', X', e', W, kk⟩ := Jvm.RoadKit.stI X.1 X.hx X.hZ X.eT A (j := j) (inb_of S ⟨hj0, hjz⟩) (g := mkF m pc Ls (.int x :: .int j :: .ref a :: st)) rfl rfl (hb X.hby hd)
  have K := Keep.of_wr W
  exact Run.of kk (q T' h' _ (X.mv X' e' K (allS ⟨hsf, hge⟩ all0) (X.fr.app (fr1 hge))) K (Arv.set A q1 S N H G rfl W i hj hi))
theorem k_caload (X : WP p l e R s m args below meth c Z own mname bytes maxL ret n0 Inv Sf T h locs cells slots) {a : Addr} {k : ClassId} {z j : Int32} {vs : List Value} {d v : Value} (hd : decode bytes pc = .ok (.caload, 1)) (A : Arv Z h a k .char z vs d) (hj0 : ¬ j < 0) (hjz : j < z) (hv : vs.getD j.toNatClampNeg d = v) (hp : pc + 1 = pc') (q : Run p.tables e below P T (mkF m pc' Ls (v :: st))) : Run p.tables e below P T (mkF m pc Ls (.int j :: .ref a :: st)) := by
  subst hp
  obtain ⟨cl, A, q1, S, N, H, G⟩ := A
  exact Run.of (X.1.caload X.hx (j := j) (v := v) (by rw [X.eT]; exact A.1) (State.isArrayOf_alike X.hZ.alike A.2.1) A.2.2 (inb_of S ⟨hj0, hjz⟩) (H.at (inb_of S ⟨hj0, hjz⟩) hv) (g := mkF m pc Ls (.int j :: .ref a :: st)) rfl rfl (hb X.hby hd)) q
theorem k_baload (X : WP p l e R s m args below meth c Z own mname bytes maxL ret n0 Inv Sf T h locs cells slots) {a : Addr} {k : ClassId} {z j : Int32} {vs : List Value} {d v : Value} (hd : decode bytes pc = .ok (.baload, 1)) (A : Arv Z h a k .byte z vs d) (hj0 : ¬ j < 0) (hjz : j < z) (hv : vs.getD j.toNatClampNeg d = v) (hp : pc + 1 = pc') (q : Run p.tables e below P T (mkF m pc' Ls (v :: st))) : Run p.tables e below P T (mkF m pc Ls (.int j :: .ref a :: st)) := by
  subst hp
  obtain ⟨cl, A, q1, S, N, H, G⟩ := A
  exact Run.of (X.1.baloadBytes X.hx (j := j) (v := v) (by rw [X.eT]; exact A.1) (State.isArrayOf_alike X.hZ.alike A.2.1) A.2.2 (inb_of S ⟨hj0, hjz⟩) (H.at (inb_of S ⟨hj0, hjz⟩) hv) (g := mkF m pc Ls (.int j :: .ref a :: st)) rfl rfl (hb X.hby hd)) q
theorem k_iaload (X : WP p l e R s m args below meth c Z own mname bytes maxL ret n0 Inv Sf T h locs cells slots) {a : Addr} {k : ClassId} {z j : Int32} {vs : List Value} {d v : Value} (hd : decode bytes pc = .ok (.iaload, 1)) (A : Arv Z h a k .int z vs d) (hj0 : ¬ j < 0) (hjz : j < z) (hv : vs.getD j.toNatClampNeg d = v) (hp : pc + 1 = pc') (q : Run p.tables e below P T (mkF m pc' Ls (v :: st))) : Run p.tables e below P T (mkF m pc Ls (.int j :: .ref a :: st)) := by
  subst hp
  obtain ⟨cl, A, q1, S, N, H, G⟩ := A
  exact Run.of (X.1.iaload X.hx (j := j) (v := v) (by rw [X.eT]; exact A.1) (State.isArrayOf_alike X.hZ.alike A.2.1) A.2.2 (inb_of S ⟨hj0, hjz⟩) (H.at (inb_of S ⟨hj0, hjz⟩) hv) (g := mkF m pc Ls (.int j :: .ref a :: st)) rfl rfl (hb X.hby hd)) q
theorem k_aaload (X : WP p l e R s m args below meth c Z own mname bytes maxL ret n0 Inv Sf T h locs cells slots) {a : Addr} {k : ClassId} {z j : Int32} {vs : List Value} {d v : Value} {ty : FieldType} (hd : decode bytes pc = .ok (.aaload, 1)) (A : Arv Z h a k ty z vs d) (hr : ty.isReference = true) (hj0 : ¬ j < 0) (hjz : j < z) (hv : vs.getD j.toNatClampNeg d = v) (hp : pc + 1 = pc') (q : Run p.tables e below P T (mkF m pc' Ls (v :: st))) : Run p.tables e below P T (mkF m pc Ls (.int j :: .ref a :: st)) := by
  subst hp
  obtain ⟨cl, A, q1, S, N, H, G⟩ := A
  exact Run.of (X.1.aaload X.hx (j := j) (v := v) (by rw [X.eT]; exact A.1) (State.isArrayOf_alike X.hZ.alike A.2.1) hr A.2.2 (inb_of S ⟨hj0, hjz⟩) (H.at (inb_of S ⟨hj0, hjz⟩) hv) (g := mkF m pc Ls (.int j :: .ref a :: st)) rfl rfl (hb X.hby hd)) q
theorem k_castNull (X : WP p l e R s m args below meth c Z own mname bytes maxL ret n0 Inv Sf T h locs cells slots) {index : Nat} (hd : decode bytes pc = .ok (.checkcast index, 3)) (hp : pc + 3 = pc') (q : Run p.tables e below P T (mkF m pc' Ls (.null :: st))) : Run p.tables e below P T (mkF m pc Ls (.null :: st)) := by
  subst hp; exact Run.of (X.1.checkcastNull X.hx (g := mkF m pc Ls (.null :: st)) rfl rfl (hb X.hby hd)) q
theorem k_instNull (X : WP p l e R s m args below meth c Z own mname bytes maxL ret n0 Inv Sf T h locs cells slots) {index : Nat} (hd : decode bytes pc = .ok (.instanceof index, 3)) (hp : pc + 3 = pc') (q : Run p.tables e below P T (mkF m pc' Ls (.int 0 :: st))) : Run p.tables e below P T (mkF m pc Ls (.null :: st)) := by
  subst hp; exact Run.of (X.1.instanceofNull X.hx (g := mkF m pc Ls (.null :: st)) rfl rfl (hb X.hby hd)) q
theorem k_clone (X : WP p l e R s m args below meth c Z own mname bytes maxL ret n0 Inv Sf T h locs cells slots) {ad : String} {index W cap : Nat} {a : Addr} {k : ClassId} {ty : FieldType} {z : Int32} {vs : List Value} {d : Value} (hd : decode bytes pc = .ok (.invokevirtual index, 3)) (w1 : (Cond.methodLink own index ⟨ad, "clone", "()Ljava/lang/Object;"⟩).before a0 Z = true) (w2 : (Cond.sameMethod ad "java/lang/Object" "clone" "()Ljava/lang/Object;").before a0 Z = true) (w3 : (Cond.native ⟨"java/lang/Object", "clone", "()Ljava/lang/Object;"⟩).before a0 Z = true)
    (w4 : (Cond.instanceMethod ⟨"java/lang/Object", "clone", "()Ljava/lang/Object;"⟩).before a0 Z = true) (w5 : (Cond.selects ad ⟨ad, "clone", "()Ljava/lang/Object;"⟩ ⟨"java/lang/Object", "clone", "()Ljava/lang/Object;"⟩).before a0 Z = true) (w6 : (Cond.castable ad "java/lang/Cloneable").before a0 Z = true) (F : Arv Z h a k ty z vs d) (E : Exa Z h a ad) (hsz : Ls.size = maxL)
    (hf : 1 ≤ R.frames) (hW : (st.map fun v => v.category).sum ≤ W) (hl : W + 14 ≤ R.locals) (hcap : z.toNatClampNeg ≤ cap) (hc : cells + 1 ≤ R.cells) (hsl : slots + cap ≤ R.slots) (hp : pc + 3 = pc')
    (q : ∀ T' h' (b : Nat), b = h.size → WP p l e R s m args below meth c Z own mname bytes maxL ret n0 Inv Sf T' h' locs (cells + 1) (slots + cap) → Keep h h' [] → Arv Z h' b k ty z vs d → Exa Z h' b ad → Sf h' b → b < h'.size → n0 ≤ b → Run p.tables e below P T' (mkF m pc' Ls (.ref b :: st))) : Run p.tables e below P T (mkF m pc Ls (.ref a :: st)) := by
  subst hp
  obtain ⟨T', h', X', e', E', A', B', kk⟩ := Jvm.RoadKit.cloneH X.1 X.hx X.hZ X.hown w1 w2 w3 w4 w5 w6 X.eT F.arh E (g := mkF m pc Ls (.ref a :: st)) rfl (by rw [X.hml]; exact hsz) rfl (hb X.hby hd) hf (W := W) (by show 2 * 0 + _ ≤ _; omega) hl hcap hc hsl
  have K := ext_keep E'
  exact Run.of kk (q T' h' h.size rfl (X.mv X' e' K (fun _ q => nomatch q) X.fr) K A' B' (X.sf K (fun _ q => nomatch q) (X.sfN (Nat.le_refl _))) (own_n B'.lt) X.n0le)
theorem k_copy (X : WP p l e R s m args below meth c Z own mname bytes maxL ret n0 Inv Sf T h locs cells slots) {index W : Nat} {a b : Addr} {k k' : ClassId} {ty : FieldType} {z z' sp dp nn : Int32} {vs vd vd' : List Value} {dv dd : Value} (hd : decode bytes pc = .ok (.invokestatic index, 3)) (w1 : (Cond.methodLink own index Jvm.Stand.acN).before a0 Z = true) (w2 : (Cond.native Jvm.Stand.acN).before a0 Z = true) (w3 : (Cond.static Jvm.Stand.acN).before a0 Z = true) (w4 : (Cond.initialized "java/lang/System").before a0 Z = true) (A : Arv Z h a k ty z vs dv) (B : Arv Z h b k' ty z' vd dd) (hty : refKind ty = false)
    (h1 : ¬ sp < 0) (h2 : ¬ dp < 0) (h3 : ¬ nn < 0) (h4 : sp.toNatClampNeg + nn.toNatClampNeg ≤ z.toNatClampNeg) (h5 : dp.toNatClampNeg + nn.toNatClampNeg ≤ z'.toNatClampNeg) (hl : dp.toNatClampNeg + nn.toNatClampNeg ≤ vd.length) (hvd : vd.take dp.toNatClampNeg ++ (List.range nn.toNatClampNeg).map (fun i => vs.getD (sp.toNatClampNeg + i) dv) ++ vd.drop (dp.toNatClampNeg + nn.toNatClampNeg) = vd') (hsf : Sf h b) (hge : n0 ≤ b) (hsz : Ls.size = maxL) (hf : 1 ≤ R.frames) (hW : (st.map fun v => v.category).sum ≤ W) (hlo : W + 18 ≤ R.locals) (hp : pc + 3 = pc')
    (q : ∀ T' h' L', WP p l e R s m args below meth c Z own mname bytes maxL ret n0 Inv Sf T' h' L' cells slots → Keep h h' [b] → Arv Z h' b k' ty z' vd' dd → Run p.tables e below P T' (mkF m pc' Ls st)) : Run p.tables e below P T (mkF m pc Ls (.int nn :: .int dp :: .ref b :: .int sp :: .ref a :: st)) := by
  subst hp hvd
  have hnw : nativeFrameWords "java/lang/System" "arraycopy" 5 = 7 := by decide
  obtain ⟨T', h', L', X', e', N, K, A', kk⟩ := Jvm.RoadKit.cpA X.1 X.hx X.hZ X.hown w1 w2 w3 w4 X.eT A B (Or.inl ⟨rfl, hty⟩) h1 h2 h3 h4 h5 rfl hl X.fr hge (g := mkF m pc Ls (.int nn :: .int dp :: .ref b :: .int sp :: .ref a :: st)) rfl (by rw [X.hml]; exact hsz) rfl (hb X.hby hd) hf (W := W) (by show 2 * 0 + _ ≤ _; omega) (by rw [hnw]; exact hlo)
  exact Run.of kk (q T' h' L' (X.mv X' e' K (allS ⟨hsf, hge⟩ all0) N) K A')
theorem k_ldcI (X : WP p l e R s m args below meth c Z own mname bytes maxL ret n0 Inv Sf T h locs cells slots) {index : Nat} {v : Int32} (hd : decode bytes pc = .ok (.ldc index, 2)) (w : (Cond.constant own index v).before a0 Z = true) (hp : pc + 2 = pc') (q : Run p.tables e below P T (mkF m pc' Ls (.int v :: st))) : Run p.tables e below P T (mkF m pc Ls st) := by
  subst hp; exact Run.of (X.1.ldcInt X.hx X.hown (mvT X.hZ w) (g := mkF m pc Ls st) rfl (hb X.hby hd)) q
/-- the contract of a body that interns nothing -/
def MetF (l : Launch) (tw : List Jvm.Cond) (Z : State) (n0 : Nat) (y : MethodName) (bytes : ByteArray) (maxL : Nat) (ret : Option FieldType) (rm : Room) (as' : Array Value) (h : Heap) (ws : List Addr) (Q : Option Value → Heap → Prop) : Prop :=
  MetFree l y (head1 (Jvm.Cond.code y bytes maxL ret :: tw) rm) (fun a U => a = as' ∧ Z.Warmed39 U.vm ∧ U.heap = h) (fun _ _ _ _ _ => True) (fun _ U o U' => ∃ v L, o = .returned v ∧ ((Keep h U'.heap ws ∧ Q v U'.heap) ∧ Fr n0 L) ∧ FrameEnd U o U' L rm.cells rm.slots)
/-- its end -/
def PF (s : State) (below : List Frame) (n0 : Nat) (h0 : Heap) (ws : List Addr) (Q : Option Value → Heap → Prop) (k n : Nat) (t : State) : Prop := ∃ o, t.status = .running ∧ Ended t below o ∧ ∃ v L, o = .returned v ∧ ((Keep h0 t.heap ws ∧ Q v t.heap) ∧ Fr n0 L) ∧ FrameEnd s o t L k n
theorem clF (Z : State) : Cl Z (fun _ => True) (fun _ _ => True) := ⟨fun _ _ _ _ _ _ => ⟨trivial, fun _ _ => trivial⟩, fun _ _ _ => trivial, fun _ _ _ _ _ _ => trivial, fun _ _ _ _ _ _ => trivial⟩
theorem MetF.mono {l : Launch} {tw : List Jvm.Cond} {Z : State} {n0 : Nat} {y : MethodName} {bytes : ByteArray} {maxL : Nat} {ret : Option FieldType} {rm : Room} {as' : Array Value} {h : Heap} {ws : List Addr} {Q Q' : Option Value → Heap → Prop} (hM : MetF l tw Z n0 y bytes maxL ret rm as' h ws Q) (hq : ∀ r h', Q r h' → Q' r h') : MetF l tw Z n0 y bytes maxL ret rm as' h ws Q' := by
  intro p e ha hc hk s m args below hf happ hP hK
  obtain ⟨n, o, r1, r2, r3, v, L, e1, ⟨⟨K, q⟩, N⟩, r4⟩ := hM p e ha hc hk s m args below hf happ hP hK
  exact ⟨n, o, r1, r2, r3, v, L, e1, ⟨⟨K, hq _ _ q⟩, N⟩, r4⟩
theorem metF {y : MethodName} {bytes : ByteArray} {maxL : Nat} {ret : Option FieldType} {rm : Room} {as' : Array Value} {ws : List Addr} {Q : Option Value → Heap → Prop} {tw : List Jvm.Cond} (hpl : plainFor y = true) (Z0 : Old Z n0 h) {Ls : Array Slot} (hef : ∀ m, entryFrame m as' maxL = mkF m 0 Ls [])
    (body : ∀ p e s m below meth c T, WP p l e rm s m as' below meth c Z y.cls y.name bytes maxL ret n0 (fun _ => True) (fun _ _ => True) T h [] 0 0 → Run p.tables e below (PF s below n0 h ws Q rm.cells rm.slots) T (mkF m 0 Ls [])) : MetF l tw Z n0 y bytes maxL ret rm as' h ws Q := by
  refine MetFree.of_bodySF hpl hisR ?_
  intro p e s m args below meth c s₁ Bd hml0 hP hK
  obtain ⟨rfl, hZ, hh⟩ := hP
  have e0 : s₁.heap = h := by rw [← hh, Bd.state]; rfl
  obtain ⟨t, hs, o, hr, he, hq⟩ := body p e s m below meth c s₁ ⟨Stand.of_body Bd, e0, hZ, findClass_of_methodNamed Bd.named, Fr.nil n0, Z0, trivial, ⟨Bd.exec, Bd.bytes, hml0, Bd.returns, BodyLoose.notSynchronized Bd, (name_of_methodNamed Bd.named Bd.method).1⟩, clF Z⟩
  rw [← hef] at hs
  exact ⟨t, o, hs, hr, he, hq⟩

theorem k_retFI (X : WP p l e R s m args below meth c Z own mname bytes maxL ret n0 Inv Sf T h locs cells slots) {z : Int32} {ws : List Addr} {Q : Option Value → Heap → Prop} {k n : Nat} {h0 : Heap} (hd : decode bytes pc = .ok (.ireturn, 1)) (hr : ret = some .int) (K : Keep h0 h ws) (hQ : Q (some (.int z)) h) (hk : cells ≤ k) (hs : slots ≤ n) : Run p.tables e below (PF s below n0 h0 ws Q k n) T (mkF m pc Ls (.int z :: st)) := by
  have hlk := X.hlk
  obtain ⟨fs, hl, hrun, hended, hW, hsame⟩ := X.1.leave (v := some (.int z)) (fun q => by rw [X.hret, hr] at q; cases q)
  refine ⟨_, Jvm.RoadKit.retI X.1 X.hx (X.hret.trans hr) (hb X.hby hd) hl, _, hrun, hended, _, _, rfl, ⟨⟨?_, ?_⟩, X.fr⟩, ⟨_, rfl⟩, hW, hsame.mono hk hs⟩
  · show Keep h0 T.heap ws; rw [X.eT]; exact K
  · show Q _ T.heap; rw [X.eT]; exact hQ
theorem k_retFN (X : WP p l e R s m args below meth c Z own mname bytes maxL ret n0 Inv Sf T h locs cells slots) {z w : Int32} {ws : List Addr} {Q : Option Value → Heap → Prop} {k n : Nat} {h0 : Heap} (hd : decode bytes pc = .ok (.ireturn, 1)) {t : FieldType} (hr : ret = some t) (ht : t = .boolean ∨ t = .byte ∨ t = .char ∨ t = .short) (hnz : nar t z = w) (K : Keep h0 h ws) (hQ : Q (some (.int w)) h) (hk : cells ≤ k) (hs : slots ≤ n) : Run p.tables e below (PF s below n0 h0 ws Q k n) T (mkF m pc Ls (.int z :: st)) := by
  have hlk := X.hlk
  obtain ⟨fs, hl, hrun, hended, hW, hsame⟩ := X.1.leave (v := some (.int w)) (fun q => by rw [X.hret, hr] at q; cases q)
  refine ⟨_, Jvm.RoadKit.retN X.1 X.hx (X.hret.trans hr) ht (hb X.hby hd) (by rw [hnz]; exact hl), _, hrun, hended, _, _, rfl, ⟨⟨?_, ?_⟩, X.fr⟩, ⟨_, rfl⟩, hW, hsame.mono hk hs⟩
  · show Keep h0 T.heap ws; rw [X.eT]; exact K
  · show Q _ T.heap; rw [X.eT]; exact hQ
theorem k_retFA (X : WP p l e R s m args below meth c Z own mname bytes maxL ret n0 Inv Sf T h locs cells slots) {v : Value} {ws : List Addr} {Q : Option Value → Heap → Prop} {k n : Nat} {h0 : Heap} (hd : decode bytes pc = .ok (.areturn, 1)) {t : FieldType} (hr : ret = some t) (hn : narrow t v = v) (ht : t.isReference = true) (hv : v.isRef = true) (K : Keep h0 h ws) (hQ : Q (some (v)) h) (hk : cells ≤ k) (hs : slots ≤ n) : Run p.tables e below (PF s below n0 h0 ws Q k n) T (mkF m pc Ls (v :: st)) := by
  have hlk := X.hlk
  obtain ⟨fs, hl, hrun, hended, hW, hsame⟩ := X.1.leave (v := some (v)) (fun q => by rw [X.hret, hr] at q; cases q)
  refine ⟨_, Jvm.RoadKit.retOut X.1 X.hx (X.hret.trans hr) hn (Or.inr (Or.inr (Or.inr (Or.inr ⟨rfl, ht, hv⟩)))) (hb X.hby hd) hl, _, hrun, hended, _, _, rfl, ⟨⟨?_, ?_⟩, X.fr⟩, ⟨_, rfl⟩, hW, hsame.mono hk hs⟩
  · show Keep h0 T.heap ws; rw [X.eT]; exact K
  · show Q _ T.heap; rw [X.eT]; exact hQ
theorem k_retFV (X : WP p l e R s m args below meth c Z own mname bytes maxL ret n0 Inv Sf T h locs cells slots) {ws : List Addr} {Q : Option Value → Heap → Prop} {k n : Nat} {h0 : Heap} (hd : decode bytes pc = .ok (.return_, 1)) (hr : ret = none) (K : Keep h0 h ws) (hQ : Q none h) (hk : cells ≤ k) (hs : slots ≤ n) : Run p.tables e below (PF s below n0 h0 ws Q k n) T (mkF m pc Ls []) := by
  have hlk := X.hlk
  obtain ⟨fs, hl, hrun, hended, hW, hsame⟩ := X.1.leave (v := none) (fun _ => rfl)
  refine ⟨_, X.1.returnOut X.hx (X.hret.trans hr) (hb X.hby hd) hl, _, hrun, hended, _, _, rfl, ⟨⟨?_, ?_⟩, X.fr⟩, ⟨_, rfl⟩, hW, hsame.mono hk hs⟩
  · show Keep h0 T.heap ws; rw [X.eT]; exact K
  · show Q _ T.heap; rw [X.eT]; exact hQ
/-- what an interning walk keeps up: the literals of EL say their text -/
def InvH (Z : State) (a0 : Array Value) (EL : List (String × Nat)) (s0 : State) (v : Vm) (h : Heap) : Prop := EW Z a0 EL ∧ Z.Warmed39 v ∧ (∃ k0, s0.Since v k0 ∧ k0 ≤ h.size) ∧ CHr Z EL s0.vm s0.heap v h
theorem clH {EL : List (String × Nat)} {s0 : State} {v : Vm} (hal : Z.vm.Alike v) : Cl Z (InvH Z a0 EL s0 v) (Safe Z EL v) :=
  ⟨fun h h' ws K hs I => ⟨⟨I.1, I.2.1, by obtain ⟨k0, a, b⟩ := I.2.2.1; exact ⟨k0, a, Nat.le_trans b K.1⟩, I.2.2.2.trans (CHr.keep K hs I.2.2.2.1)⟩, fun x q => Safe.keep K hs I.2.2.2.1 q⟩, fun h x q => Safe.new q, fun h x C E h1 h2 => Safe.exa hal E h1 h2, fun h x c ty A ht => Safe.arr hal A ht⟩
/-- the contract of a body that may load literals -/
def MetH (l : Launch) (tw : List Jvm.Cond) (Z : State) (EL : List (String × Nat)) (n0 : Nat) (y : MethodName) (bytes : ByteArray) (maxL : Nat) (ret : Option FieldType) (rm : Room) (as' : Array Value) (h : Heap) (ws : List Addr) (Q : Option Value → Vm → Heap → Prop) : Prop :=
  MetFree l y (head1 (Jvm.Cond.code y bytes maxL ret :: tw) rm) (fun a U => a = as' ∧ Z.Warmed39 U.vm ∧ U.heap = h ∧ CHv Z EL U.vm h ∧ ∀ x ∈ ws, Safe Z EL U.vm h x) (fun _ _ _ _ _ => True)
    (fun _ U o U' => ∃ v L, o = .returned v ∧ ((Keep h U'.heap ws ∧ Q v U'.vm U'.heap) ∧ Fr n0 L) ∧ CHr Z EL U.vm U.heap U'.vm U'.heap ∧ ReturnedEndW U o U' L rm.cells rm.slots)
def PH (Z : State) (EL : List (String × Nat)) (s : State) (below : List Frame) (n0 : Nat) (h0 : Heap) (ws : List Addr) (Q : Option Value → Vm → Heap → Prop) (k n : Nat) (t : State) : Prop := ∃ o, t.status = .running ∧ Ended t below o ∧ ∃ v L, o = .returned v ∧ ((Keep h0 t.heap ws ∧ Q v t.vm t.heap) ∧ Fr n0 L) ∧ CHr Z EL s.vm s.heap t.vm t.heap ∧ ReturnedEndW s o t L k n
theorem metH {EL : List (String × Nat)} {y : MethodName} {bytes : ByteArray} {maxL : Nat} {ret : Option FieldType} {rm : Room} {as' : Array Value} {ws : List Addr} {Q : Option Value → Vm → Heap → Prop} {tw : List Jvm.Cond} (hEL : EW Z a0 EL) (hpl : plainFor y = true) (Z0 : Old Z n0 h) {Ls : Array Slot} (hef : ∀ m, entryFrame m as' maxL = mkF m 0 Ls [])
    (body : ∀ p e s m below meth c T v, WP p l e rm (s.setVm v) m as' below meth c Z y.cls y.name bytes maxL ret n0 (InvH Z a0 EL s v) (Safe Z EL v) T h [] 0 0 → (∀ x ∈ ws, Safe Z EL v h x) → Run p.tables e below (PH Z EL s below n0 h ws Q rm.cells rm.slots) T (mkF m 0 Ls [])) : MetH l tw Z EL n0 y bytes maxL ret rm as' h ws Q := by
  refine MetFree.of_bodySF hpl hisR ?_
  intro p e s m args below meth c s₁ Bd hml0 hP hK
  obtain ⟨rfl, hZ, hh, hC, hS⟩ := hP
  have e0 : s₁.heap = h := by rw [← hh, Bd.state]; rfl
  have I : InvH Z a0 EL s s.vm h := ⟨hEL, hZ, ⟨s.heap.size, (State.WarmedH.refl s).since _, by rw [hh]; exact Nat.le_refl _⟩, by rw [hh]; exact CHr.refl hC⟩
  obtain ⟨t, hs, o, hr, he, hq⟩ := body p e s m below meth c s₁ s.vm ⟨Stand.of_body Bd, e0, hZ, findClass_of_methodNamed Bd.named, Fr.nil n0, Z0, I, ⟨Bd.exec, Bd.bytes, hml0, Bd.returns, BodyLoose.notSynchronized Bd, (name_of_methodNamed Bd.named Bd.method).1⟩, clH hZ.alike⟩ hS
  rw [← hef] at hs
  exact ⟨t, o, hs, hr, he, hq⟩

theorem k_retHI {EL : List (String × Nat)} {v : Vm} (X : WP p l e R (s.setVm v) m args below meth c Z own mname bytes maxL ret n0 (InvH Z a0 EL s v) (Safe Z EL v) T h locs cells slots) {z : Int32} {ws : List Addr} {Q : Option Value → Vm → Heap → Prop} {k n : Nat} {h0 : Heap} (hd : decode bytes pc = .ok (.ireturn, 1)) (hr : ret = some .int) (K : Keep h0 h ws) (hQ : ∀ v', CHr Z EL v h v' h → Q (some (.int z)) v' h) (hk : cells ≤ k) (hs : slots ≤ n) : Run p.tables e below (PH Z EL s below n0 h0 ws Q k n) T (mkF m pc Ls (.int z :: st)) := by
  have hlk := X.hlk
  obtain ⟨hEL, hWv, ⟨k0, hS, hk0⟩, hC⟩ := X.inv
  obtain ⟨fs, hl, hrun, hended, hRW⟩ := X.1.leaveW hS (by rw [X.eT]; exact hk0) (v := some (.int z)) (fun q => by rw [X.hret, hr] at q; cases q)
  have hC' : CHr Z EL v h T.vm h := CHv.at X.1 hWv hEL hC.1
  refine ⟨_, Jvm.RoadKit.retI X.1 X.hx (X.hret.trans hr) (hb X.hby hd) hl, _, hrun, hended, _, _, rfl, ⟨⟨?_, ?_⟩, X.fr⟩, ?_, hRW.1, hRW.2.1, hRW.2.2.1, hRW.2.2.2.mono hk hs⟩
  · show Keep h0 T.heap ws; rw [X.eT]; exact K
  · show Q _ T.vm T.heap; rw [X.eT]; exact hQ _ hC'
  · show CHr Z EL s.vm s.heap T.vm T.heap; rw [X.eT]; exact hC.trans hC'
theorem k_retHN {EL : List (String × Nat)} {v : Vm} (X : WP p l e R (s.setVm v) m args below meth c Z own mname bytes maxL ret n0 (InvH Z a0 EL s v) (Safe Z EL v) T h locs cells slots) {z w : Int32} {ws : List Addr} {Q : Option Value → Vm → Heap → Prop} {k n : Nat} {h0 : Heap} (hd : decode bytes pc = .ok (.ireturn, 1)) {t : FieldType} (hr : ret = some t) (ht : t = .boolean ∨ t = .byte ∨ t = .char ∨ t = .short) (hnz : nar t z = w) (K : Keep h0 h ws) (hQ : ∀ v', CHr Z EL v h v' h → Q (some (.int w)) v' h) (hk : cells ≤ k) (hs : slots ≤ n) : Run p.tables e below (PH Z EL s below n0 h0 ws Q k n) T (mkF m pc Ls (.int z :: st)) := by
  have hlk := X.hlk
  obtain ⟨hEL, hWv, ⟨k0, hS, hk0⟩, hC⟩ := X.inv
  obtain ⟨fs, hl, hrun, hended, hRW⟩ := X.1.leaveW hS (by rw [X.eT]; exact hk0) (v := some (.int w)) (fun q => by rw [X.hret, hr] at q; cases q)
  have hC' : CHr Z EL v h T.vm h := CHv.at X.1 hWv hEL hC.1
  refine ⟨_, Jvm.RoadKit.retN X.1 X.hx (X.hret.trans hr) ht (hb X.hby hd) (by rw [hnz]; exact hl), _, hrun, hended, _, _, rfl, ⟨⟨?_, ?_⟩, X.fr⟩, ?_, hRW.1, hRW.2.1, hRW.2.2.1, hRW.2.2.2.mono hk hs⟩
  · show Keep h0 T.heap ws; rw [X.eT]; exact K
  · show Q _ T.vm T.heap; rw [X.eT]; exact hQ _ hC'
  · show CHr Z EL s.vm s.heap T.vm T.heap; rw [X.eT]; exact hC.trans hC'
theorem k_retHA {EL : List (String × Nat)} {v : Vm} (X : WP p l e R (s.setVm v) m args below meth c Z own mname bytes maxL ret n0 (InvH Z a0 EL s v) (Safe Z EL v) T h locs cells slots) {x : Value} {ws : List Addr} {Q : Option Value → Vm → Heap → Prop} {k n : Nat} {h0 : Heap} (hd : decode bytes pc = .ok (.areturn, 1)) {t : FieldType} (hr : ret = some t) (hn : narrow t x = x) (ht : t.isReference = true) (hv : x.isRef = true) (K : Keep h0 h ws) (hQ : ∀ v', CHr Z EL v h v' h → Q (some (x)) v' h) (hk : cells ≤ k) (hs : slots ≤ n) : Run p.tables e below (PH Z EL s below n0 h0 ws Q k n) T (mkF m pc Ls (x :: st)) := by
  have hlk := X.hlk
  obtain ⟨hEL, hWv, ⟨k0, hS, hk0⟩, hC⟩ := X.inv
  obtain ⟨fs, hl, hrun, hended, hRW⟩ := X.1.leaveW hS (by rw [X.eT]; exact hk0) (v := some (x)) (fun q => by rw [X.hret, hr] at q; cases q)
  have hC' : CHr Z EL v h T.vm h := CHv.at X.1 hWv hEL hC.1
  refine ⟨_, Jvm.RoadKit.retOut X.1 X.hx (X.hret.trans hr) hn (Or.inr (Or.inr (Or.inr (Or.inr ⟨rfl, ht, hv⟩)))) (hb X.hby hd) hl, _, hrun, hended, _, _, rfl, ⟨⟨?_, ?_⟩, X.fr⟩, ?_, hRW.1, hRW.2.1, hRW.2.2.1, hRW.2.2.2.mono hk hs⟩
  · show Keep h0 T.heap ws; rw [X.eT]; exact K
  · show Q _ T.vm T.heap; rw [X.eT]; exact hQ _ hC'
  · show CHr Z EL s.vm s.heap T.vm T.heap; rw [X.eT]; exact hC.trans hC'
theorem k_retHV {EL : List (String × Nat)} {v : Vm} (X : WP p l e R (s.setVm v) m args below meth c Z own mname bytes maxL ret n0 (InvH Z a0 EL s v) (Safe Z EL v) T h locs cells slots) {ws : List Addr} {Q : Option Value → Vm → Heap → Prop} {k n : Nat} {h0 : Heap} (hd : decode bytes pc = .ok (.return_, 1)) (hr : ret = none) (K : Keep h0 h ws) (hQ : ∀ v', CHr Z EL v h v' h → Q none v' h) (hk : cells ≤ k) (hs : slots ≤ n) : Run p.tables e below (PH Z EL s below n0 h0 ws Q k n) T (mkF m pc Ls []) := by
  have hlk := X.hlk
  obtain ⟨hEL, hWv, ⟨k0, hS, hk0⟩, hC⟩ := X.inv
  obtain ⟨fs, hl, hrun, hended, hRW⟩ := X.1.leaveW hS (by rw [X.eT]; exact hk0) (v := none) (fun _ => rfl)
  have hC' : CHr Z EL v h T.vm h := CHv.at X.1 hWv hEL hC.1
  refine ⟨_, X.1.returnOut X.hx (X.hret.trans hr) (hb X.hby hd) hl, _, hrun, hended, _, _, rfl, ⟨⟨?_, ?_⟩, X.fr⟩, ?_, hRW.1, hRW.2.1, hRW.2.2.1, hRW.2.2.2.mono hk hs⟩
  · show Keep h0 T.heap ws; rw [X.eT]; exact K
  · show Q _ T.vm T.heap; rw [X.eT]; exact hQ _ hC'
  · show CHr Z EL s.vm s.heap T.vm T.heap; rw [X.eT]; exact hC.trans hC'
theorem WP.reH {EL : List (String × Nat)} {v : Vm} (X : WP p l e R (s.setVm v) m args below meth c Z own mname bytes maxL ret n0 (InvH Z a0 EL s v) (Safe Z EL v) T h locs cells slots) {v' : Vm} {T' : State} {h' : Heap} {locs' : List Loc} {cells' slots' : Nat} (X' : Stand p l e R (s.setVm v') m args below meth c T' locs' cells' slots') (e' : T'.heap = h') {ws : List Addr} (K : Keep h h' ws) {k1 : Nat} (hS : s.Since v' k1) (hk : k1 ≤ h'.size) (hW : Z.Warmed39 v') (ho : v'.findClass own = some m.cls) (hC : CHr Z EL v h v' h') (hge : ∀ x ∈ ws, n0 ≤ x) (N : Fr n0 locs') : WP p l e R (s.setVm v') m args below meth c Z own mname bytes maxL ret n0 (InvH Z a0 EL s v') (Safe Z EL v') T' h' locs' cells' slots' :=
  ⟨X', e', hW, ho, N, X.old.keep K hge, ⟨X.inv.1, hW, ⟨k1, hS, hk⟩, X.inv.2.2.2.trans hC⟩, X.2.2.2.2.2.2.2.1, clH hW.alike⟩
theorem k_ldcO {EL : List (String × Nat)} {v : Vm} (X : WP p l e R (s.setVm v) m args below meth c Z own mname bytes maxL ret n0 (InvH Z a0 EL s v) (Safe Z EL v) T h locs cells slots) {text : String} {index n : Nat} (hd : decode bytes pc = .ok (.ldc index, 2)) (w : (Cond.stringLink own index text).before a0 Z = true) (wS : ∀ a ∈ Bundle.stringAtoms, a.before a0 Z = true) (hn : 4 * text.toList.length ≤ n) (hbig : n ≤ 536870912) (hc : cells + 2 ≤ R.cells) (hl : slots + (n + 4) ≤ R.slots) (hp : pc + 2 = pc')
    (q : ∀ a v' T' h', WP p l e R (s.setVm v') m args below meth c Z own mname bytes maxL ret n0 (InvH Z a0 EL s v') (Safe Z EL v') T' h' locs (cells + 2) (slots + (n + 4)) → Keep h h' [] → CHr Z EL v h v' h' → Run p.tables e below P T' (mkF m pc' Ls (.ref a :: st))) : Run p.tables e below P T (mkF m pc Ls st) := by
  subst hp
  obtain ⟨hEL, hWv, ⟨k0, hS, hk0⟩, hC⟩ := X.inv
  obtain ⟨a, T', h', k1, X', e', E, hS', hk1, hZ', ho', hC', -, k⟩ := ldcOH X.1 X.hx hWv X.hown w wS X.eT hS hk0 hEL hC.1 (g := mkF m pc Ls st) rfl (hb X.hby hd) hn hbig hc hl
  have K := ext_keep E
  exact Run.of k (q a T'.vm T' h' (X.reH X' e' K hS' hk1 hZ' ho' hC' (fun _ q => nomatch q) X.fr) K hC')
theorem k_ldcR {EL : List (String × Nat)} {v : Vm} (X : WP p l e R (s.setVm v) m args below meth c Z own mname bytes maxL ret n0 (InvH Z a0 EL s v) (Safe Z EL v) T h locs cells slots) {text : String} {index n : Nat} (hd : decode bytes pc = .ok (.ldc index, 2)) (w : (Cond.stringLink own index text).before a0 Z = true) (wS : ∀ a ∈ Bundle.stringAtoms, a.before a0 Z = true) (hmem : (own, index) ∈ EL) {vs : List Value} {z : Int32} (ht : (∀ c ∈ text.toList, c.toNat < 256) ∧ text.toList.map (fun c => Value.int (Jvm.Lit.byteI c.toNat.toUInt16)) = vs) (hz : ¬ z < 0) (hlv : z.toNatClampNeg = vs.length)
    (hn : 4 * text.toList.length ≤ n) (hbig : n ≤ 536870912) (hc : cells + 2 ≤ R.cells) (hl : slots + (n + 4) ≤ R.slots) (hp : pc + 2 = pc')
    (q : ∀ a b kb v' T' h', WP p l e R (s.setVm v') m args below meth c Z own mname bytes maxL ret n0 (InvH Z a0 EL s v') (Safe Z EL v') T' h' locs (cells + 2) (slots + (n + 4)) → Keep h h' [] → CHr Z EL v h v' h' → Exa Z h' a "java/lang/String" → Fld Z h' a "java/lang/String" "coder" "B" (.int 0) → Fld Z h' a "java/lang/String" "value" "[B" (.ref b) → Arv Z h' b kb .byte z vs (.int 0) → (∀ x, Safe Z EL v' h' x → x ≠ a ∧ x ≠ b) → Run p.tables e below P T' (mkF m pc' Ls (.ref a :: st))) : Run p.tables e below P T (mkF m pc Ls st) := by
  subst hp
  obtain ⟨hEL, hWv, ⟨k0, hS, hk0⟩, hC⟩ := X.inv
  obtain ⟨a, T', h', k1, b, kb, X', e', E, hS', hk1, hZ', ho', A, F1, F2, V, -, -, hC', -, hne, k⟩ := ldcCH X.1 X.hx hWv X.hown w wS X.eT hS hk0 hEL hmem hC.1 ht hz hlv (g := mkF m pc Ls st) rfl (hb X.hby hd) hn hbig hc hl
  have K := ext_keep E
  exact Run.of k (q a b kb T'.vm T' h' (X.reH X' e' K hS' hk1 hZ' ho' hC' (fun _ q => nomatch q) X.fr) K hC' A F1 F2 V hne)
theorem backH {EL : List (String × Nat)} {v : Vm} {y : MethodName} {bytes : ByteArray} {maxL : Nat} {ret : Option FieldType} {rm : Room} {len W : Nat} {as' : Array Value} {ws : List Addr} {Q : Option Value → Vm → Heap → Prop}
    (hM : MetH l [] Z EL n0 y bytes maxL ret rm as' h ws Q) (hZ : Z.Warmed39 v) (wc : (Cond.code y bytes maxL ret).before a0 Z = true) (wz : (Cond.initialized y.cls).before a0 Z = true) (hf : rm.frames + 1 ≤ R.frames) (hl : W + (maxL + 11) + rm.locals ≤ R.locals) (hEL : EW Z a0 EL) (H : CHv Z EL v h) (hs : ∀ x ∈ ws, x < h.size ∧ Safe Z EL v h x) :
    BackS l R p e below (s.setVm v) args y len W (fun A a => a = as' ∧ A.U.heap = h ∧ A.cells + rm.cells ≤ R.cells ∧ A.slots + rm.slots ≤ R.slots)
      (fun A _ r B => ∃ L, ((Keep h B.U.heap ws ∧ Q r B.U.vm B.U.heap) ∧ Fr n0 L) ∧ B.locs = A.locs ++ L ∧ B.cells = A.cells + rm.cells ∧ B.slots = A.slots + rm.slots ∧ CHr Z EL v h B.U.vm B.U.heap) :=
  BackS.of_freeW (bytes := bytes) (maxL := maxL) (ret := ret) (E := fun _ first o t L k n => k = rm.cells ∧ n = rm.slots ∧ (∃ r, o = .returned r ∧ ((Keep h t.heap ws ∧ Q r t.vm t.heap) ∧ Fr n0 L)) ∧ CHr Z EL first.vm first.heap t.vm t.heap) hM hf hl
    (fun m meth c A a Y hp => have hU : Z.Warmed39 A.U.vm := wtrans (s := s.setVm v) hZ Y.warmed
      ⟨by show (Cond.and _ .tt).before a A.U = true; rw [Cond.before_and, Jvm.RoadKit.mv hU wc]; rfl, Jvm.RoadKit.mv hU wc, Jvm.RoadKit.mv hU wz, hp.2.2.1, hp.2.2.2⟩)
    (fun m meth c A a g mk Y hp => ⟨hp.1, wtrans (s := s.setVm v) hZ Y.warmed, hp.2.1, (CHv.at Y hZ hEL H).1, fun x hx => (CHv.at Y hZ hEL H).safe (hs x hx).1 (hs x hx).2⟩) (fun _ _ _ _ _ _ _ _ _ => trivial)
    (fun _ _ _ _ ⟨r, L, h1, h2, h3, h4⟩ => ⟨L, _, _, h4, rfl, rfl, ⟨r, h1, h2⟩, h3⟩)
    (fun m meth c A a g mk r t L k n Y hp _ _ ⟨e1, e2, ⟨r', e3, e4⟩, e5⟩ => by
      cases e3; subst e1 e2
      refine ⟨L, e4, rfl, rfl, rfl, (CHv.at Y hZ hEL H).trans ?_⟩
      rw [← hp.2.1]; exact e5)
theorem k_callSVF (X : WP p l e R s m args below meth c Z own mname bytes maxL ret n0 Inv Sf T h locs cells slots) {y : MethodName} {index W : Nat} {bytes' : ByteArray} {maxL' : Nat} {ret' : Option FieldType} {rm : Room} {ws : List Addr} {Q : Value → Heap → Prop}  {argsL rest stk : List Value} {ps : List FieldType} {rt : Option FieldType} (hd : decode bytes pc = .ok (.invokestatic index, 3)) (w1 : (Cond.methodLink own index y).before a0 Z = true) (w2 : (Cond.static y).before a0 Z = true) (wz : (Cond.initialized y.cls).before a0 Z = true) (wc : (Cond.code y bytes' maxL' ret').before a0 Z = true) (hy : y.cls ≠ "java/lang/invoke/MethodHandle" ∧ y.cls ≠ "java/lang/invoke/VarHandle")  (hM : MetF l [] Z n0 y bytes' maxL' ret' rm argsL.toArray h ws (fun r h' => ∃ w, r = some w ∧ Q w h')) (hstk : stk = argsL.reverse ++ rest) (hpd : parseMethodDescriptor y.desc = some ⟨ps, rt⟩) (hlen : argsL.length = ps.length) (hsz : Ls.size = maxL) (hfr : rm.frames + 1 ≤ R.frames) (hW : (rest.map fun v => v.category).sum ≤ W) (hlo : W + (maxL' + 11) + rm.locals ≤ R.locals) (hc : cells + rm.cells ≤ R.cells) (hs : slots + rm.slots ≤ R.slots) (hsf : ∀ x ∈ ws, Sf h x ∧ n0 ≤ x) (hp : pc + 3 = pc')
    (q : ∀ w T' h' L', WP p l e R s m args below meth c Z own mname bytes maxL ret n0 Inv Sf T' h' L' (cells + rm.cells) (slots + rm.slots) → Keep h h' ws → Q w h' → Run p.tables e below P T' (mkF m pc' Ls (w :: rest))) : Run p.tables e below P T (mkF m pc Ls stk) := by
  subst hp
  have bk := backOf (R := R) (p := p) (e := e) (below := below) (args := args) (len := 3) (W := W) (Q := fun r h' L => (Keep h h' ws ∧ (fun r h' => ∃ w, r = some w ∧ Q w h') r h') ∧ Fr n0 L) hM X.hZ wc wz hfr hlo
  obtain ⟨r, _, ⟨T', L', k', n'⟩, -, X', ⟨Lc, hQ, l1, l2, l3⟩, kk⟩ := Jvm.LawKit.callS X.1 X.hx (y := y) X.hown (mvT X.hZ w1) (mvT X.hZ w2) (mvT X.hZ wz) (mvT X.hZ wc) hy bk (g := mkF m pc Ls stk) rfl (by rw [X.hml]; exact hsz) (argsL := argsL) (rest := rest) (lenOf hpd hlen) hstk (by show 2 * 0 + _ ≤ _; omega) (hb X.hby hd) (fun _ _ => ⟨rfl, X.eT, hc, hs⟩)
  dsimp only [Pt.U, Pt.locs, Pt.cells, Pt.slots] at X' l1 l2 l3 kk hQ
  subst l1 l2 l3
  obtain ⟨⟨K, w, rfl, hQ⟩, N⟩ := hQ
  exact Run.of kk (q _ _ _ _ (X.mv X' rfl K hsf (X.fr.app N)) K hQ)
theorem k_callSNF (X : WP p l e R s m args below meth c Z own mname bytes maxL ret n0 Inv Sf T h locs cells slots) {y : MethodName} {index W : Nat} {bytes' : ByteArray} {maxL' : Nat} {ret' : Option FieldType} {rm : Room} {ws : List Addr} {Q : Heap → Prop}  {argsL rest stk : List Value} {ps : List FieldType} {rt : Option FieldType} (hd : decode bytes pc = .ok (.invokestatic index, 3)) (w1 : (Cond.methodLink own index y).before a0 Z = true) (w2 : (Cond.static y).before a0 Z = true) (wz : (Cond.initialized y.cls).before a0 Z = true) (wc : (Cond.code y bytes' maxL' ret').before a0 Z = true) (hy : y.cls ≠ "java/lang/invoke/MethodHandle" ∧ y.cls ≠ "java/lang/invoke/VarHandle")  (hM : MetF l [] Z n0 y bytes' maxL' ret' rm argsL.toArray h ws (fun r h' => r = none ∧ Q h')) (hstk : stk = argsL.reverse ++ rest) (hpd : parseMethodDescriptor y.desc = some ⟨ps, rt⟩) (hlen : argsL.length = ps.length) (hsz : Ls.size = maxL) (hfr : rm.frames + 1 ≤ R.frames) (hW : (rest.map fun v => v.category).sum ≤ W) (hlo : W + (maxL' + 11) + rm.locals ≤ R.locals) (hc : cells + rm.cells ≤ R.cells) (hs : slots + rm.slots ≤ R.slots) (hsf : ∀ x ∈ ws, Sf h x ∧ n0 ≤ x) (hp : pc + 3 = pc')
    (q : ∀ T' h' L', WP p l e R s m args below meth c Z own mname bytes maxL ret n0 Inv Sf T' h' L' (cells + rm.cells) (slots + rm.slots) → Keep h h' ws → Q h' → Run p.tables e below P T' (mkF m pc' Ls (rest))) : Run p.tables e below P T (mkF m pc Ls stk) := by
  subst hp
  have bk := backOf (R := R) (p := p) (e := e) (below := below) (args := args) (len := 3) (W := W) (Q := fun r h' L => (Keep h h' ws ∧ (fun r h' => r = none ∧ Q h') r h') ∧ Fr n0 L) hM X.hZ wc wz hfr hlo
  obtain ⟨r, _, ⟨T', L', k', n'⟩, -, X', ⟨Lc, hQ, l1, l2, l3⟩, kk⟩ := Jvm.LawKit.callS X.1 X.hx (y := y) X.hown (mvT X.hZ w1) (mvT X.hZ w2) (mvT X.hZ wz) (mvT X.hZ wc) hy bk (g := mkF m pc Ls stk) rfl (by rw [X.hml]; exact hsz) (argsL := argsL) (rest := rest) (lenOf hpd hlen) hstk (by show 2 * 0 + _ ≤ _; omega) (hb X.hby hd) (fun _ _ => ⟨rfl, X.eT, hc, hs⟩)
  dsimp only [Pt.U, Pt.locs, Pt.cells, Pt.slots] at X' l1 l2 l3 kk hQ
  subst l1 l2 l3
  obtain ⟨⟨K, rfl, hQ⟩, N⟩ := hQ
  exact Run.of kk (q _ _ _ (X.mv X' rfl K hsf (X.fr.app N)) K hQ)
theorem k_callSVH {EL : List (String × Nat)} {v : Vm} (X : WP p l e R (s.setVm v) m args below meth c Z own mname bytes maxL ret n0 (InvH Z a0 EL s v) (Safe Z EL v) T h locs cells slots) {y : MethodName} {index W : Nat} {bytes' : ByteArray} {maxL' : Nat} {ret' : Option FieldType} {rm : Room} {ws : List Addr} {Q : Value → Vm → Heap → Prop}  {argsL rest stk : List Value} {ps : List FieldType} {rt : Option FieldType} (hd : decode bytes pc = .ok (.invokestatic index, 3)) (w1 : (Cond.methodLink own index y).before a0 Z = true) (w2 : (Cond.static y).before a0 Z = true) (wz : (Cond.initialized y.cls).before a0 Z = true) (wc : (Cond.code y bytes' maxL' ret').before a0 Z = true) (hy : y.cls ≠ "java/lang/invoke/MethodHandle" ∧ y.cls ≠ "java/lang/invoke/VarHandle")  (hM : MetH l [] Z EL n0 y bytes' maxL' ret' rm argsL.toArray h ws (fun r v' h' => ∃ w, r = some w ∧ Q w v' h')) (hstk : stk = argsL.reverse ++ rest) (hpd : parseMethodDescriptor y.desc = some ⟨ps, rt⟩) (hlen : argsL.length = ps.length) (hsz : Ls.size = maxL) (hfr : rm.frames + 1 ≤ R.frames) (hW : (rest.map fun v => v.category).sum ≤ W) (hlo : W + (maxL' + 11) + rm.locals ≤ R.locals) (hc : cells + rm.cells ≤ R.cells) (hs : slots + rm.slots ≤ R.slots) (hsf : ∀ x ∈ ws, (x < h.size ∧ Safe Z EL v h x) ∧ n0 ≤ x) (hp : pc + 3 = pc')
    (q : ∀ w v' T' h' L', WP p l e R (s.setVm v') m args below meth c Z own mname bytes maxL ret n0 (InvH Z a0 EL s v') (Safe Z EL v') T' h' L' (cells + rm.cells) (slots + rm.slots) → Keep h h' ws → CHr Z EL v h v' h' → Q w v' h' → Run p.tables e below P T' (mkF m pc' Ls (w :: rest))) : Run p.tables e below P T (mkF m pc Ls stk) := by
  subst hp
  obtain ⟨hEL, hWv, ⟨k0, hS, hk0⟩, hC⟩ := X.inv
  have bk := backH (R := R) (p := p) (e := e) (below := below) (s := s) (args := args) (len := 3) (W := W) hM hWv wc wz hfr hlo hEL hC.1 (fun x q => (hsf x q).1)
  obtain ⟨r, _, ⟨T', L', k', n'⟩, -, X', hS2, hgr, ⟨Lc, hQ, l1, l2, l3, hC'⟩, kk⟩ := callSS X.1 X.hx (y := y) X.hown (mvT X.hZ w1) (mvT X.hZ w2) (mvT X.hZ wz) (mvT X.hZ wc) hy bk (g := mkF m pc Ls stk) rfl (by rw [X.hml]; exact hsz) (argsL := argsL) (rest := rest) (lenOf hpd hlen) hstk (by show 2 * 0 + _ ≤ _; omega) (hb X.hby hd) (fun _ _ => ⟨rfl, X.eT, hc, hs⟩)
  dsimp only [Pt.U, Pt.locs, Pt.cells, Pt.slots] at X' l1 l2 l3 kk hQ hS2 hgr hC'
  subst l1 l2 l3
  obtain ⟨⟨K, w, rfl, hQ⟩, N⟩ := hQ
  obtain ⟨X2, hS3, hZ2, ho2⟩ := rebS hS (show k0 ≤ T.heap.size by rw [X.eT]; exact hk0) X' hS2 hgr X.hZ X.hown
  exact Run.tr kk (q _ _ _ _ _ (X.reH X2 rfl K hS3 (Nat.le_refl _) hZ2 ho2 hC' (fun x q => (hsf x q).2) (X.fr.app N)) K hC' hQ)
theorem k_callSNH {EL : List (String × Nat)} {v : Vm} (X : WP p l e R (s.setVm v) m args below meth c Z own mname bytes maxL ret n0 (InvH Z a0 EL s v) (Safe Z EL v) T h locs cells slots) {y : MethodName} {index W : Nat} {bytes' : ByteArray} {maxL' : Nat} {ret' : Option FieldType} {rm : Room} {ws : List Addr} {Q : Vm → Heap → Prop}  {argsL rest stk : List Value} {ps : List FieldType} {rt : Option FieldType} (hd : decode bytes pc = .ok (.invokestatic index, 3)) (w1 : (Cond.methodLink own index y).before a0 Z = true) (w2 : (Cond.static y).before a0 Z = true) (wz : (Cond.initialized y.cls).before a0 Z = true) (wc : (Cond.code y bytes' maxL' ret').before a0 Z = true) (hy : y.cls ≠ "java/lang/invoke/MethodHandle" ∧ y.cls ≠ "java/lang/invoke/VarHandle")  (hM : MetH l [] Z EL n0 y bytes' maxL' ret' rm argsL.toArray h ws (fun r v' h' => r = none ∧ Q v' h')) (hstk : stk = argsL.reverse ++ rest) (hpd : parseMethodDescriptor y.desc = some ⟨ps, rt⟩) (hlen : argsL.length = ps.length) (hsz : Ls.size = maxL) (hfr : rm.frames + 1 ≤ R.frames) (hW : (rest.map fun v => v.category).sum ≤ W) (hlo : W + (maxL' + 11) + rm.locals ≤ R.locals) (hc : cells + rm.cells ≤ R.cells) (hs : slots + rm.slots ≤ R.slots) (hsf : ∀ x ∈ ws, (x < h.size ∧ Safe Z EL v h x) ∧ n0 ≤ x) (hp : pc + 3 = pc')
    (q : ∀ v' T' h' L', WP p l e R (s.setVm v') m args below meth c Z own mname bytes maxL ret n0 (InvH Z a0 EL s v') (Safe Z EL v') T' h' L' (cells + rm.cells) (slots + rm.slots) → Keep h h' ws → CHr Z EL v h v' h' → Q v' h' → Run p.tables e below P T' (mkF m pc' Ls (rest))) : Run p.tables e below P T (mkF m pc Ls stk) := by
  subst hp
  obtain ⟨hEL, hWv, ⟨k0, hS, hk0⟩, hC⟩ := X.inv
  have bk := backH (R := R) (p := p) (e := e) (below := below) (s := s) (args := args) (len := 3) (W := W) hM hWv wc wz hfr hlo hEL hC.1 (fun x q => (hsf x q).1)
  obtain ⟨r, _, ⟨T', L', k', n'⟩, -, X', hS2, hgr, ⟨Lc, hQ, l1, l2, l3, hC'⟩, kk⟩ := callSS X.1 X.hx (y := y) X.hown (mvT X.hZ w1) (mvT X.hZ w2) (mvT X.hZ wz) (mvT X.hZ wc) hy bk (g := mkF m pc Ls stk) rfl (by rw [X.hml]; exact hsz) (argsL := argsL) (rest := rest) (lenOf hpd hlen) hstk (by show 2 * 0 + _ ≤ _; omega) (hb X.hby hd) (fun _ _ => ⟨rfl, X.eT, hc, hs⟩)
  dsimp only [Pt.U, Pt.locs, Pt.cells, Pt.slots] at X' l1 l2 l3 kk hQ hS2 hgr hC'
  subst l1 l2 l3
  obtain ⟨⟨K, rfl, hQ⟩, N⟩ := hQ
  obtain ⟨X2, hS3, hZ2, ho2⟩ := rebS hS (show k0 ≤ T.heap.size by rw [X.eT]; exact hk0) X' hS2 hgr X.hZ X.hown
  exact Run.tr kk (q _ _ _ _ (X.reH X2 rfl K hS3 (Nat.le_refl _) hZ2 ho2 hC' (fun x q => (hsf x q).2) (X.fr.app N)) K hC' hQ)
theorem k_callPNF (X : WP p l e R s m args below meth c Z own mname bytes maxL ret n0 Inv Sf T h locs cells slots) {y : MethodName} {index W : Nat} {bytes' : ByteArray} {maxL' : Nat} {ret' : Option FieldType} {rm : Room} {ws : List Addr} {Q : Heap → Prop} {a : Addr} {argsL rest stk : List Value} {ps : List FieldType} {rt : Option FieldType} (hd : decode bytes pc = .ok (.invokespecial index, 3)) (w1 : (Cond.methodLink own index y).before a0 Z = true) (w2 : (Cond.instanceMethod y).before a0 Z = true) (wz : (Cond.initialized y.cls).before a0 Z = true) (wc : (Cond.code y bytes' maxL' ret').before a0 Z = true) (hy : y.cls ≠ "java/lang/invoke/MethodHandle" ∧ y.cls ≠ "java/lang/invoke/VarHandle") (hin : y.name = "<init>") (hrn : ret' = none) (hM : MetF l [] Z n0 y bytes' maxL' ret' rm (.ref a :: argsL).toArray h ws (fun r h' => r = none ∧ Q h')) (hstk : stk = argsL.reverse ++ .ref a :: rest) (hpd : parseMethodDescriptor y.desc = some ⟨ps, rt⟩) (hlen : argsL.length = ps.length) (hsz : Ls.size = maxL) (hfr : rm.frames + 1 ≤ R.frames) (hW : (rest.map fun v => v.category).sum ≤ W) (hlo : W + (maxL' + 11) + rm.locals ≤ R.locals) (hc : cells + rm.cells ≤ R.cells) (hs : slots + rm.slots ≤ R.slots) (hsf : ∀ x ∈ ws, Sf h x ∧ n0 ≤ x) (hp : pc + 3 = pc')
    (q : ∀ T' h' L', WP p l e R s m args below meth c Z own mname bytes maxL ret n0 Inv Sf T' h' L' (cells + rm.cells) (slots + rm.slots) → Keep h h' ws → Q h' → Run p.tables e below P T' (mkF m pc' Ls (rest))) : Run p.tables e below P T (mkF m pc Ls stk) := by
  subst hp
  have bk := backOf (R := R) (p := p) (e := e) (below := below) (args := args) (len := 3) (W := W) (Q := fun r h' L => (Keep h h' ws ∧ (fun r h' => r = none ∧ Q h') r h') ∧ Fr n0 L) hM X.hZ wc wz hfr hlo
  obtain ⟨r, _, ⟨T', L', k', n'⟩, -, X', ⟨Lc, hQ, l1, l2, l3⟩, kk⟩ := X.1.specialBack X.hx (y := y) hin X.hown (mvT X.hZ w1) (mvT X.hZ w2) (bytes := bytes') (maxL := maxL') (mvT X.hZ (hrn ▸ wc)) hy bk (g := mkF m pc Ls stk) rfl (by rw [X.hml]; exact hsz) (Steps.refl _) (a := a) (argsL := argsL) (rest := rest) (lenOf hpd hlen) hstk (by show 2 * 0 + _ ≤ _; omega) (hb X.hby hd) (fun _ _ => ⟨rfl, X.eT, hc, hs⟩)
  dsimp only [Pt.U, Pt.locs, Pt.cells, Pt.slots] at X' l1 l2 l3 kk hQ
  subst l1 l2 l3
  obtain ⟨⟨K, rfl, hQ⟩, N⟩ := hQ
  exact Run.tr kk (q _ _ _ (X.mv X' rfl K hsf (X.fr.app N)) K hQ)
theorem k_callPNH {EL : List (String × Nat)} {v : Vm} (X : WP p l e R (s.setVm v) m args below meth c Z own mname bytes maxL ret n0 (InvH Z a0 EL s v) (Safe Z EL v) T h locs cells slots) {y : MethodName} {index W : Nat} {bytes' : ByteArray} {maxL' : Nat} {ret' : Option FieldType} {rm : Room} {ws : List Addr} {Q : Vm → Heap → Prop} {a : Addr} {argsL rest stk : List Value} {ps : List FieldType} {rt : Option FieldType} (hd : decode bytes pc = .ok (.invokespecial index, 3)) (w1 : (Cond.methodLink own index y).before a0 Z = true) (w2 : (Cond.instanceMethod y).before a0 Z = true) (wz : (Cond.initialized y.cls).before a0 Z = true) (wc : (Cond.code y bytes' maxL' ret').before a0 Z = true) (hy : y.cls ≠ "java/lang/invoke/MethodHandle" ∧ y.cls ≠ "java/lang/invoke/VarHandle") (hin : y.name = "<init>") (hrn : ret' = none) (hM : MetH l [] Z EL n0 y bytes' maxL' ret' rm (.ref a :: argsL).toArray h ws (fun r v' h' => r = none ∧ Q v' h')) (hstk : stk = argsL.reverse ++ .ref a :: rest) (hpd : parseMethodDescriptor y.desc = some ⟨ps, rt⟩) (hlen : argsL.length = ps.length) (hsz : Ls.size = maxL) (hfr : rm.frames + 1 ≤ R.frames) (hW : (rest.map fun v => v.category).sum ≤ W) (hlo : W + (maxL' + 11) + rm.locals ≤ R.locals) (hc : cells + rm.cells ≤ R.cells) (hs : slots + rm.slots ≤ R.slots) (hsf : ∀ x ∈ ws, (x < h.size ∧ Safe Z EL v h x) ∧ n0 ≤ x) (hp : pc + 3 = pc')
    (q : ∀ v' T' h' L', WP p l e R (s.setVm v') m args below meth c Z own mname bytes maxL ret n0 (InvH Z a0 EL s v') (Safe Z EL v') T' h' L' (cells + rm.cells) (slots + rm.slots) → Keep h h' ws → CHr Z EL v h v' h' → Q v' h' → Run p.tables e below P T' (mkF m pc' Ls (rest))) : Run p.tables e below P T (mkF m pc Ls stk) := by
  subst hp
  obtain ⟨hEL, hWv, ⟨k0, hS, hk0⟩, hC⟩ := X.inv
  have bk := backH (R := R) (p := p) (e := e) (below := below) (s := s) (args := args) (len := 3) (W := W) hM hWv wc wz hfr hlo hEL hC.1 (fun x q => (hsf x q).1)
  obtain ⟨r, _, ⟨T', L', k', n'⟩, -, X', hS2, hgr, ⟨Lc, hQ, l1, l2, l3, hC'⟩, kk⟩ := X.1.specialBackS X.hx (y := y) hin X.hown (mvT X.hZ w1) (mvT X.hZ w2) (bytes := bytes') (maxL := maxL') (mvT X.hZ (hrn ▸ wc)) hy bk (g := mkF m pc Ls stk) rfl (by rw [X.hml]; exact hsz) (Steps.refl _) (a := a) (argsL := argsL) (rest := rest) (lenOf hpd hlen) hstk (by show 2 * 0 + _ ≤ _; omega) (hb X.hby hd) (fun _ _ => ⟨rfl, X.eT, hc, hs⟩)
  dsimp only [Pt.U, Pt.locs, Pt.cells, Pt.slots] at X' l1 l2 l3 kk hQ hS2 hgr hC'
  subst l1 l2 l3
  obtain ⟨⟨K, rfl, hQ⟩, N⟩ := hQ
  obtain ⟨X2, hS3, hZ2, ho2⟩ := rebS hS (show k0 ≤ T.heap.size by rw [X.eT]; exact hk0) X' hS2 hgr X.hZ X.hown
  exact Run.tr kk (q _ _ _ _ (X.reH X2 rfl K hS3 (Nat.le_refl _) hZ2 ho2 hC' (fun x q => (hsf x q).2) (X.fr.app N)) K hC' hQ)
theorem k_callVVF (X : WP p l e R s m args below meth c Z own mname bytes maxL ret n0 Inv Sf T h locs cells slots) {y : MethodName} {index W : Nat} {bytes' : ByteArray} {maxL' : Nat} {ret' : Option FieldType} {rm : Room} {ws : List Addr} {Q : Value → Heap → Prop} {a : Addr} {y0 : MethodName} {C : String} {argsL rest stk : List Value} {ps : List FieldType} {rt : Option FieldType} (hd : decode bytes pc = .ok (.invokevirtual index, 3)) (w1 : (Cond.methodLink own index y0).before a0 Z = true) (w2 : (Cond.declares y0).before a0 Z = true) (w3 : (Cond.selects C y0 y).before a0 Z = true) (w4 : (Cond.instanceMethod y).before a0 Z = true) (wz : (Cond.initialized y.cls).before a0 Z = true) (wc : (Cond.code y bytes' maxL' ret').before a0 Z = true) (hy : y0.cls ≠ "java/lang/invoke/MethodHandle" ∧ y0.cls ≠ "java/lang/invoke/VarHandle") (hnf : NotFace s y0) (E : Exa Z h a C) (hM : MetF l [] Z n0 y bytes' maxL' ret' rm (.ref a :: argsL).toArray h ws (fun r h' => ∃ w, r = some w ∧ Q w h')) (hstk : stk = argsL.reverse ++ .ref a :: rest) (hpd : parseMethodDescriptor y0.desc = some ⟨ps, rt⟩) (hlen : argsL.length = ps.length) (hsz : Ls.size = maxL) (hfr : rm.frames + 1 ≤ R.frames) (hW : (rest.map fun v => v.category).sum ≤ W) (hlo : W + (maxL' + 11) + rm.locals ≤ R.locals) (hc : cells + rm.cells ≤ R.cells) (hs : slots + rm.slots ≤ R.slots) (hsf : ∀ x ∈ ws, Sf h x ∧ n0 ≤ x) (hp : pc + 3 = pc')
    (q : ∀ w T' h' L', WP p l e R s m args below meth c Z own mname bytes maxL ret n0 Inv Sf T' h' L' (cells + rm.cells) (slots + rm.slots) → Keep h h' ws → Q w h' → Run p.tables e below P T' (mkF m pc' Ls (w :: rest))) : Run p.tables e below P T (mkF m pc Ls stk) := by
  subst hp
  obtain ⟨cq, kq, qa, qb, qc⟩ := isOf (T := T) X.hZ X.eT E
  have bk := backOf (R := R) (p := p) (e := e) (below := below) (args := args) (len := 3) (W := W) (Q := fun r h' L => (Keep h h' ws ∧ (fun r h' => ∃ w, r = some w ∧ Q w h') r h') ∧ Fr n0 L) hM X.hZ wc wz hfr hlo
  obtain ⟨r, _, ⟨T', L', k', n'⟩, -, X', ⟨Lc, hQ, l1, l2, l3⟩, kk⟩ := X.1.virtualBack X.hx (y := y0) (z := y) X.hown (mvT X.hZ w1) (mvT X.hZ w2) hnf (mvT X.hZ w3) (mvT X.hZ w4) hy bk qa qc (g := mkF m pc Ls stk) rfl (by rw [X.hml]; exact hsz) (Steps.refl _) (argsL := argsL) (rest := rest) (lenOf hpd hlen) hstk (by show 2 * 0 + _ ≤ _; omega) (hb X.hby hd) (fun _ _ => ⟨rfl, X.eT, hc, hs⟩)
  dsimp only [Pt.U, Pt.locs, Pt.cells, Pt.slots] at X' l1 l2 l3 kk hQ
  subst l1 l2 l3
  obtain ⟨⟨K, w, rfl, hQ⟩, N⟩ := hQ
  exact Run.tr kk (q _ _ _ _ (X.mv X' rfl K hsf (X.fr.app N)) K hQ)
theorem k_callVNF (X : WP p l e R s m args below meth c Z own mname bytes maxL ret n0 Inv Sf T h locs cells slots) {y : MethodName} {index W : Nat} {bytes' : ByteArray} {maxL' : Nat} {ret' : Option FieldType} {rm : Room} {ws : List Addr} {Q : Heap → Prop} {a : Addr} {y0 : MethodName} {C : String} {argsL rest stk : List Value} {ps : List FieldType} {rt : Option FieldType} (hd : decode bytes pc = .ok (.invokevirtual index, 3)) (w1 : (Cond.methodLink own index y0).before a0 Z = true) (w2 : (Cond.declares y0).before a0 Z = true) (w3 : (Cond.selects C y0 y).before a0 Z = true) (w4 : (Cond.instanceMethod y).before a0 Z = true) (wz : (Cond.initialized y.cls).before a0 Z = true) (wc : (Cond.code y bytes' maxL' ret').before a0 Z = true) (hy : y0.cls ≠ "java/lang/invoke/MethodHandle" ∧ y0.cls ≠ "java/lang/invoke/VarHandle") (hnf : NotFace s y0) (E : Exa Z h a C) (hM : MetF l [] Z n0 y bytes' maxL' ret' rm (.ref a :: argsL).toArray h ws (fun r h' => r = none ∧ Q h')) (hstk : stk = argsL.reverse ++ .ref a :: rest) (hpd : parseMethodDescriptor y0.desc = some ⟨ps, rt⟩) (hlen : argsL.length = ps.length) (hsz : Ls.size = maxL) (hfr : rm.frames + 1 ≤ R.frames) (hW : (rest.map fun v => v.category).sum ≤ W) (hlo : W + (maxL' + 11) + rm.locals ≤ R.locals) (hc : cells + rm.cells ≤ R.cells) (hs : slots + rm.slots ≤ R.slots) (hsf : ∀ x ∈ ws, Sf h x ∧ n0 ≤ x) (hp : pc + 3 = pc')
    (q : ∀ T' h' L', WP p l e R s m args below meth c Z own mname bytes maxL ret n0 Inv Sf T' h' L' (cells + rm.cells) (slots + rm.slots) → Keep h h' ws → Q h' → Run p.tables e below P T' (mkF m pc' Ls (rest))) : Run p.tables e below P T (mkF m pc Ls stk) := by
  subst hp
  obtain ⟨cq, kq, qa, qb, qc⟩ := isOf (T := T) X.hZ X.eT E
  have bk := backOf (R := R) (p := p) (e := e) (below := below) (args := args) (len := 3) (W := W) (Q := fun r h' L => (Keep h h' ws ∧ (fun r h' => r = none ∧ Q h') r h') ∧ Fr n0 L) hM X.hZ wc wz hfr hlo
  obtain ⟨r, _, ⟨T', L', k', n'⟩, -, X', ⟨Lc, hQ, l1, l2, l3⟩, kk⟩ := X.1.virtualBack X.hx (y := y0) (z := y) X.hown (mvT X.hZ w1) (mvT X.hZ w2) hnf (mvT X.hZ w3) (mvT X.hZ w4) hy bk qa qc (g := mkF m pc Ls stk) rfl (by rw [X.hml]; exact hsz) (Steps.refl _) (argsL := argsL) (rest := rest) (lenOf hpd hlen) hstk (by show 2 * 0 + _ ≤ _; omega) (hb X.hby hd) (fun _ _ => ⟨rfl, X.eT, hc, hs⟩)
  dsimp only [Pt.U, Pt.locs, Pt.cells, Pt.slots] at X' l1 l2 l3 kk hQ
  subst l1 l2 l3
  obtain ⟨⟨K, rfl, hQ⟩, N⟩ := hQ
  exact Run.tr kk (q _ _ _ (X.mv X' rfl K hsf (X.fr.app N)) K hQ)
theorem k_callVVH {EL : List (String × Nat)} {v : Vm} (X : WP p l e R (s.setVm v) m args below meth c Z own mname bytes maxL ret n0 (InvH Z a0 EL s v) (Safe Z EL v) T h locs cells slots) {y : MethodName} {index W : Nat} {bytes' : ByteArray} {maxL' : Nat} {ret' : Option FieldType} {rm : Room} {ws : List Addr} {Q : Value → Vm → Heap → Prop} {a : Addr} {y0 : MethodName} {C : String} {argsL rest stk : List Value} {ps : List FieldType} {rt : Option FieldType} (hd : decode bytes pc = .ok (.invokevirtual index, 3)) (w1 : (Cond.methodLink own index y0).before a0 Z = true) (w2 : (Cond.declares y0).before a0 Z = true) (w3 : (Cond.selects C y0 y).before a0 Z = true) (w4 : (Cond.instanceMethod y).before a0 Z = true) (wz : (Cond.initialized y.cls).before a0 Z = true) (wc : (Cond.code y bytes' maxL' ret').before a0 Z = true) (hy : y0.cls ≠ "java/lang/invoke/MethodHandle" ∧ y0.cls ≠ "java/lang/invoke/VarHandle") (hnf : NotFace (s.setVm v) y0) (E : Exa Z h a C) (hM : MetH l [] Z EL n0 y bytes' maxL' ret' rm (.ref a :: argsL).toArray h ws (fun r v' h' => ∃ w, r = some w ∧ Q w v' h')) (hstk : stk = argsL.reverse ++ .ref a :: rest) (hpd : parseMethodDescriptor y0.desc = some ⟨ps, rt⟩) (hlen : argsL.length = ps.length) (hsz : Ls.size = maxL) (hfr : rm.frames + 1 ≤ R.frames) (hW : (rest.map fun v => v.category).sum ≤ W) (hlo : W + (maxL' + 11) + rm.locals ≤ R.locals) (hc : cells + rm.cells ≤ R.cells) (hs : slots + rm.slots ≤ R.slots) (hsf : ∀ x ∈ ws, (x < h.size ∧ Safe Z EL v h x) ∧ n0 ≤ x) (hp : pc + 3 = pc')
    (q : ∀ w v' T' h' L', WP p l e R (s.setVm v') m args below meth c Z own mname bytes maxL ret n0 (InvH Z a0 EL s v') (Safe Z EL v') T' h' L' (cells + rm.cells) (slots + rm.slots) → Keep h h' ws → CHr Z EL v h v' h' → Q w v' h' → Run p.tables e below P T' (mkF m pc' Ls (w :: rest))) : Run p.tables e below P T (mkF m pc Ls stk) := by
  subst hp
  obtain ⟨cq, kq, qa, qb, qc⟩ := isOf (T := T) X.hZ X.eT E
  obtain ⟨hEL, hWv, ⟨k0, hS, hk0⟩, hC⟩ := X.inv
  have bk := backH (R := R) (p := p) (e := e) (below := below) (s := s) (args := args) (len := 3) (W := W) hM hWv wc wz hfr hlo hEL hC.1 (fun x q => (hsf x q).1)
  obtain ⟨r, _, ⟨T', L', k', n'⟩, -, X', hS2, hgr, ⟨Lc, hQ, l1, l2, l3, hC'⟩, kk⟩ := X.1.virtualBackS X.hx (y := y0) (z := y) X.hown (mvT X.hZ w1) (mvT X.hZ w2) hnf (mvT X.hZ w3) (mvT X.hZ w4) hy bk qa qc (g := mkF m pc Ls stk) rfl (by rw [X.hml]; exact hsz) (Steps.refl _) (argsL := argsL) (rest := rest) (lenOf hpd hlen) hstk (by show 2 * 0 + _ ≤ _; omega) (hb X.hby hd) (fun _ _ => ⟨rfl, X.eT, hc, hs⟩)
  dsimp only [Pt.U, Pt.locs, Pt.cells, Pt.slots] at X' l1 l2 l3 kk hQ hS2 hgr hC'
  subst l1 l2 l3
  obtain ⟨⟨K, w, rfl, hQ⟩, N⟩ := hQ
  obtain ⟨X2, hS3, hZ2, ho2⟩ := rebS hS (show k0 ≤ T.heap.size by rw [X.eT]; exact hk0) X' hS2 hgr X.hZ X.hown
  exact Run.tr kk (q _ _ _ _ _ (X.reH X2 rfl K hS3 (Nat.le_refl _) hZ2 ho2 hC' (fun x q => (hsf x q).2) (X.fr.app N)) K hC' hQ)
theorem k_callVNH {EL : List (String × Nat)} {v : Vm} (X : WP p l e R (s.setVm v) m args below meth c Z own mname bytes maxL ret n0 (InvH Z a0 EL s v) (Safe Z EL v) T h locs cells slots) {y : MethodName} {index W : Nat} {bytes' : ByteArray} {maxL' : Nat} {ret' : Option FieldType} {rm : Room} {ws : List Addr} {Q : Vm → Heap → Prop} {a : Addr} {y0 : MethodName} {C : String} {argsL rest stk : List Value} {ps : List FieldType} {rt : Option FieldType} (hd : decode bytes pc = .ok (.invokevirtual index, 3)) (w1 : (Cond.methodLink own index y0).before a0 Z = true) (w2 : (Cond.declares y0).before a0 Z = true) (w3 : (Cond.selects C y0 y).before a0 Z = true) (w4 : (Cond.instanceMethod y).before a0 Z = true) (wz : (Cond.initialized y.cls).before a0 Z = true) (wc : (Cond.code y bytes' maxL' ret').before a0 Z = true) (hy : y0.cls ≠ "java/lang/invoke/MethodHandle" ∧ y0.cls ≠ "java/lang/invoke/VarHandle") (hnf : NotFace (s.setVm v) y0) (E : Exa Z h a C) (hM : MetH l [] Z EL n0 y bytes' maxL' ret' rm (.ref a :: argsL).toArray h ws (fun r v' h' => r = none ∧ Q v' h')) (hstk : stk = argsL.reverse ++ .ref a :: rest) (hpd : parseMethodDescriptor y0.desc = some ⟨ps, rt⟩) (hlen : argsL.length = ps.length) (hsz : Ls.size = maxL) (hfr : rm.frames + 1 ≤ R.frames) (hW : (rest.map fun v => v.category).sum ≤ W) (hlo : W + (maxL' + 11) + rm.locals ≤ R.locals) (hc : cells + rm.cells ≤ R.cells) (hs : slots + rm.slots ≤ R.slots) (hsf : ∀ x ∈ ws, (x < h.size ∧ Safe Z EL v h x) ∧ n0 ≤ x) (hp : pc + 3 = pc')
    (q : ∀ v' T' h' L', WP p l e R (s.setVm v') m args below meth c Z own mname bytes maxL ret n0 (InvH Z a0 EL s v') (Safe Z EL v') T' h' L' (cells + rm.cells) (slots + rm.slots) → Keep h h' ws → CHr Z EL v h v' h' → Q v' h' → Run p.tables e below P T' (mkF m pc' Ls (rest))) : Run p.tables e below P T (mkF m pc Ls stk) := by
  subst hp
  obtain ⟨cq, kq, qa, qb, qc⟩ := isOf (T := T) X.hZ X.eT E
  obtain ⟨hEL, hWv, ⟨k0, hS, hk0⟩, hC⟩ := X.inv
  have bk := backH (R := R) (p := p) (e := e) (below := below) (s := s) (args := args) (len := 3) (W := W) hM hWv wc wz hfr hlo hEL hC.1 (fun x q => (hsf x q).1)
  obtain ⟨r, _, ⟨T', L', k', n'⟩, -, X', hS2, hgr, ⟨Lc, hQ, l1, l2, l3, hC'⟩, kk⟩ := X.1.virtualBackS X.hx (y := y0) (z := y) X.hown (mvT X.hZ w1) (mvT X.hZ w2) hnf (mvT X.hZ w3) (mvT X.hZ w4) hy bk qa qc (g := mkF m pc Ls stk) rfl (by rw [X.hml]; exact hsz) (Steps.refl _) (argsL := argsL) (rest := rest) (lenOf hpd hlen) hstk (by show 2 * 0 + _ ≤ _; omega) (hb X.hby hd) (fun _ _ => ⟨rfl, X.eT, hc, hs⟩)
  dsimp only [Pt.U, Pt.locs, Pt.cells, Pt.slots] at X' l1 l2 l3 kk hQ hS2 hgr hC'
  subst l1 l2 l3
  obtain ⟨⟨K, rfl, hQ⟩, N⟩ := hQ
  obtain ⟨X2, hS3, hZ2, ho2⟩ := rebS hS (show k0 ≤ T.heap.size by rw [X.eT]; exact hk0) X' hS2 hgr X.hZ X.hown
  exact Run.tr kk (q _ _ _ _ (X.reH X2 rfl K hS3 (Nat.le_refl _) hZ2 ho2 hC' (fun x q => (hsf x q).2) (X.fr.app N)) K hC' hQ)
theorem k_callIVF (X : WP p l e R s m args below meth c Z own mname bytes maxL ret n0 Inv Sf T h locs cells slots) {y : MethodName} {index W : Nat} {bytes' : ByteArray} {maxL' : Nat} {ret' : Option FieldType} {rm : Room} {ws : List Addr} {Q : Value → Heap → Prop} {a : Addr} {y0 : MethodName} {C : String} {count : Nat} {argsL rest stk : List Value} {ps : List FieldType} {rt : Option FieldType} (hd : decode bytes pc = .ok (.invokeinterface index count, 5)) (w1 : (Cond.methodLink own index y0).before args s = true) (w2 : (Cond.declares y0).before args s = true) (w5 : (Cond.interfaceMethod y0.cls y0.cls y0.name y0.desc).before args s = true) (w3 : (Cond.selects C y0 y).before args s = true) (w4 : (Cond.instanceMethod y).before args s = true) (w6 : (Cond.publicMethod y).before args s = true) (w7 : (Cond.unhidden C y0.name y0.desc).before args s = true) (w8 : (Cond.castable C y0.cls).before args s = true) (wz : (Cond.initialized y.cls).before a0 Z = true) (wc : (Cond.code y bytes' maxL' ret').before a0 Z = true) (hy : y0.cls ≠ "java/lang/invoke/MethodHandle" ∧ y0.cls ≠ "java/lang/invoke/VarHandle") (E : Exa Z h a C) (hM : MetF l [] Z n0 y bytes' maxL' ret' rm (.ref a :: argsL).toArray h ws (fun r h' => ∃ w, r = some w ∧ Q w h')) (hstk : stk = argsL.reverse ++ .ref a :: rest) (hpd : parseMethodDescriptor y0.desc = some ⟨ps, rt⟩) (hlen : argsL.length = ps.length) (hsz : Ls.size = maxL) (hfr : rm.frames + 1 ≤ R.frames) (hW : (rest.map fun v => v.category).sum ≤ W) (hlo : W + (maxL' + 11) + rm.locals ≤ R.locals) (hc : cells + rm.cells ≤ R.cells) (hs : slots + rm.slots ≤ R.slots) (hsf : ∀ x ∈ ws, Sf h x ∧ n0 ≤ x) (hp : pc + 5 = pc')
    (q : ∀ w T' h' L', WP p l e R s m args below meth c Z own mname bytes maxL ret n0 Inv Sf T' h' L' (cells + rm.cells) (slots + rm.slots) → Keep h h' ws → Q w h' → Run p.tables e below P T' (mkF m pc' Ls (w :: rest))) : Run p.tables e below P T (mkF m pc Ls stk) := by
  subst hp
  obtain ⟨cq, kq, qa, qb, qc⟩ := isOf (T := T) X.hZ X.eT E
  have bk := backOf (R := R) (p := p) (e := e) (below := below) (args := args) (len := 5) (W := W) (Q := fun r h' L => (Keep h h' ws ∧ (fun r h' => ∃ w, r = some w ∧ Q w h') r h') ∧ Fr n0 L) hM X.hZ wc wz hfr hlo
  obtain ⟨r, _, ⟨T', L', k', n'⟩, -, X', ⟨Lc, hQ, l1, l2, l3⟩, kk⟩ := X.1.interfaceBack X.hx (xi := y0) (y := y) X.hown w1 w2 w5 w3 w4 w6 w7 w8 hy bk qa qb qc (g := mkF m pc Ls stk) rfl (by rw [X.hml]; exact hsz) (Steps.refl _) (argsL := argsL) (rest := rest) (lenOf hpd hlen) hstk (by show 2 * 0 + _ ≤ _; omega) (hb X.hby hd) (fun _ _ => ⟨rfl, X.eT, hc, hs⟩)
  dsimp only [Pt.U, Pt.locs, Pt.cells, Pt.slots] at X' l1 l2 l3 kk hQ
  subst l1 l2 l3
  obtain ⟨⟨K, w, rfl, hQ⟩, N⟩ := hQ
  exact Run.tr kk (q _ _ _ _ (X.mv X' rfl K hsf (X.fr.app N)) K hQ)
theorem k_callINF (X : WP p l e R s m args below meth c Z own mname bytes maxL ret n0 Inv Sf T h locs cells slots) {y : MethodName} {index W : Nat} {bytes' : ByteArray} {maxL' : Nat} {ret' : Option FieldType} {rm : Room} {ws : List Addr} {Q : Heap → Prop} {a : Addr} {y0 : MethodName} {C : String} {count : Nat} {argsL rest stk : List Value} {ps : List FieldType} {rt : Option FieldType} (hd : decode bytes pc = .ok (.invokeinterface index count, 5)) (w1 : (Cond.methodLink own index y0).before args s = true) (w2 : (Cond.declares y0).before args s = true) (w5 : (Cond.interfaceMethod y0.cls y0.cls y0.name y0.desc).before args s = true) (w3 : (Cond.selects C y0 y).before args s = true) (w4 : (Cond.instanceMethod y).before args s = true) (w6 : (Cond.publicMethod y).before args s = true) (w7 : (Cond.unhidden C y0.name y0.desc).before args s = true) (w8 : (Cond.castable C y0.cls).before args s = true) (wz : (Cond.initialized y.cls).before a0 Z = true) (wc : (Cond.code y bytes' maxL' ret').before a0 Z = true) (hy : y0.cls ≠ "java/lang/invoke/MethodHandle" ∧ y0.cls ≠ "java/lang/invoke/VarHandle") (E : Exa Z h a C) (hM : MetF l [] Z n0 y bytes' maxL' ret' rm (.ref a :: argsL).toArray h ws (fun r h' => r = none ∧ Q h')) (hstk : stk = argsL.reverse ++ .ref a :: rest) (hpd : parseMethodDescriptor y0.desc = some ⟨ps, rt⟩) (hlen : argsL.length = ps.length) (hsz : Ls.size = maxL) (hfr : rm.frames + 1 ≤ R.frames) (hW : (rest.map fun v => v.category).sum ≤ W) (hlo : W + (maxL' + 11) + rm.locals ≤ R.locals) (hc : cells + rm.cells ≤ R.cells) (hs : slots + rm.slots ≤ R.slots) (hsf : ∀ x ∈ ws, Sf h x ∧ n0 ≤ x) (hp : pc + 5 = pc')
    (q : ∀ T' h' L', WP p l e R s m args below meth c Z own mname bytes maxL ret n0 Inv Sf T' h' L' (cells + rm.cells) (slots + rm.slots) → Keep h h' ws → Q h' → Run p.tables e below P T' (mkF m pc' Ls (rest))) : Run p.tables e below P T (mkF m pc Ls stk) := by
  subst hp
  obtain ⟨cq, kq, qa, qb, qc⟩ := isOf (T := T) X.hZ X.eT E
  have bk := backOf (R := R) (p := p) (e := e) (below := below) (args := args) (len := 5) (W := W) (Q := fun r h' L => (Keep h h' ws ∧ (fun r h' => r = none ∧ Q h') r h') ∧ Fr n0 L) hM X.hZ wc wz hfr hlo
  obtain ⟨r, _, ⟨T', L', k', n'⟩, -, X', ⟨Lc, hQ, l1, l2, l3⟩, kk⟩ := X.1.interfaceBack X.hx (xi := y0) (y := y) X.hown w1 w2 w5 w3 w4 w6 w7 w8 hy bk qa qb qc (g := mkF m pc Ls stk) rfl (by rw [X.hml]; exact hsz) (Steps.refl _) (argsL := argsL) (rest := rest) (lenOf hpd hlen) hstk (by show 2 * 0 + _ ≤ _; omega) (hb X.hby hd) (fun _ _ => ⟨rfl, X.eT, hc, hs⟩)
  dsimp only [Pt.U, Pt.locs, Pt.cells, Pt.slots] at X' l1 l2 l3 kk hQ
  subst l1 l2 l3
  obtain ⟨⟨K, rfl, hQ⟩, N⟩ := hQ
  exact Run.tr kk (q _ _ _ (X.mv X' rfl K hsf (X.fr.app N)) K hQ)
end Kit
end Own
end Jvm.Pilot.@@N@@
namespace Jvm.Pilot.@@N@@
open Jvm Jvm.ClassFile Sem Op Lib Jvm.Free Jvm.Stand Jvm.LawKit Jvm.RoadKit Bundle Jvm.Pilot.@@N@@.Jvm.D
section OwnProof
open Own
theorem own_nat {i : Nat} (h : i < 2147483648) : (Int32.ofNat i).toInt = (i : Int) := by
  rw [Int32.toInt_ofNat', show Int32.size = 4294967296 from rfl]; exact Int.bmod_eq_of_le (by omega) (by omega)
theorem own_nz {n : Nat} (h0 : 0 < n) (h1 : n < 2147483648) : ¬ Int32.ofNat n = 0 := fun q => by
  have e := congrArg Int32.toInt q
  rw [own_nat h1, show (0 : Int32).toInt = 0 from by decide] at e
  omega
theorem own_clamp {i : Nat} (h : i < 2147483648) : (Int32.ofNat i).toNatClampNeg = i := by
  show (Int32.ofNat i).toInt.toNat = i
  rw [own_nat h]; rfl
theorem own_nn {i : Nat} (h : i < 2147483648) : ¬ (Int32.ofNat i < 0) := by
  rw [Int32.lt_iff_toInt_lt, own_nat h]; show ¬ ((i : Int) < 0); omega
theorem own_lt {i n : Nat} (h : i < n) (hn : n < 2147483648) : Int32.ofNat i < Int32.ofNat n := by
  rw [Int32.lt_iff_toInt_lt, own_nat (by omega), own_nat hn]; omega
theorem own_succ (i : Nat) : Int32.ofNat i + Int32.ofInt 1 = Int32.ofNat (i + 1) := by
  rw [Int32.ofNat_add]; rfl
theorem own_shl1 {i : Nat} (h : i < 1073741824) : Int32.ofNat i <<< ((1 : Int32) &&& 31) = Int32.ofNat (2 * i) := by
  apply Int32.toInt_inj.mp
  have q := c_ishl (Int32.ofNat i) 1 1 (by decide)
  rw [own_nat (by omega)] at q
  rw [own_nat (by omega)]
  have := rng32 (Int32.ofNat i <<< ((1 : Int32) &&& 31))
  omega
theorem own_i2b (x : Int32) : nar .byte (x.toInt8.toInt32) = x.toInt8.toInt32 := by
  show x.toInt8.toInt32.toInt8.toInt32 = x.toInt8.toInt32
  rw [Int8.toInt8_toInt32]
def own_lo (c : Int32) : Value := .int c.toInt8.toInt32
/-- the bytes of a compact String -/
def own_lat (cs : List Int32) : List Value := cs.map own_lo
theorem own_latlen (cs : List Int32) : (own_lat cs).length = cs.length := by simp [own_lat]
theorem own_getc (cs : List Int32) (i : Nat) : (cs.map Value.int).getD i (.int 0) = .int (cs.getD i 0) := by
  simp only [List.getD_eq_getElem?_getD, List.getElem?_map]
  cases cs[i]? <;> rfl
theorem own_getc' (cs : List Int32) {i : Nat} (h : i < 2147483648) : (cs.map Value.int).getD (Int32.ofNat i).toNatClampNeg (.int 0) = .int (cs.getD i 0) := by
  rw [own_clamp h]; exact own_getc cs i
theorem own_turn (cs : List Int32) (vs : List Value) (i : Nat) (hi : i < cs.length) (hv : vs.length = cs.length) : ((cs.take i).map own_lo ++ vs.drop i).set i (.int (cs.getD i 0).toInt8.toInt32) = (cs.take (i + 1)).map own_lo ++ vs.drop (i + 1) := by
  apply List.ext_getElem?
  intro j
  by_cases hj : j = i
  · subst hj
    have h1 : j < ((cs.take j).map own_lo ++ vs.drop j).length := by simp; omega
    rw [List.getElem?_set_self h1, List.getElem?_append_left (by simp; omega)]
    simp [hi, own_lo, List.getD_eq_getElem?_getD]
  · rw [List.getElem?_set_ne (by omega)]
    by_cases hlt : j < i
    · rw [List.getElem?_append_left (by simp; omega), List.getElem?_append_left (by simp; omega)]
      simp [hlt, show j < i + 1 by omega]
    · rw [List.getElem?_append_right (by simp; omega), List.getElem?_append_right (by simp; omega)]
      simp only [List.length_map, List.length_take, List.getElem?_drop]
      congr 1; omega
theorem own_store {x0 x1 x2 x3 x4 x5 s6 : Slot} {v : Int32} (h : One s6) (h5 : ∃ w : Int32, x5 = .val (.int w)) : storeLocals #[x0, x1, x2, x3, x4, x5, s6] 6 (.int v) = some #[x0, x1, x2, x3, x4, x5, .val (.int v)] := by
  obtain ⟨w5, rfl⟩ := h5
  rcases h with rfl | ⟨w, rfl, hw⟩
  · rfl
  · cases w <;> first | rfl | (simp [Value.category] at hw)
/-- the first place of a sign above 255, or the length -/
def own_fst : List Int32 → Nat
  | [] => 0
  | c :: cs => if 255 < c then 0 else own_fst cs + 1
theorem own_fst_le : ∀ cs : List Int32, own_fst cs ≤ cs.length
  | [] => Nat.le_refl _
  | c :: cs => by
    unfold own_fst; split
    · simp
    · have := own_fst_le cs; simp; omega
theorem own_fst_lo : ∀ (cs : List Int32) (i : Nat), i < own_fst cs → ¬ 255 < cs.getD i 0
  | [], i, h => by simp [own_fst] at h
  | c :: cs, i, h => by
    unfold own_fst at h; split at h
    · omega
    · rename_i hc
      cases i with
      | zero => simpa using hc
      | succ i => simpa using own_fst_lo cs i (by omega)
theorem own_fst_hi : ∀ (cs : List Int32), own_fst cs < cs.length → 255 < cs.getD (own_fst cs) 0
  | [], h => by simp at h
  | c :: cs, h => by
    unfold own_fst at h ⊢; split
    · rename_i hc; simpa using hc
    · rename_i hc
      rw [if_neg hc] at h
      simpa using own_fst_hi cs (by simpa using h)
theorem own_fst_all : ∀ (cs : List Int32), (∀ c ∈ cs, ¬ 255 < c) → own_fst cs = cs.length
  | [], _ => rfl
  | c :: cs, h => by
    unfold own_fst
    rw [if_neg (h c (by simp)), own_fst_all cs fun x hx => h x (by simp [hx])]; simp
theorem own_rng {Z : State} {h : Heap} {b : Addr} {kb : ClassId} {z : Int32} {cs : List Int32} (A : Arv Z h b kb .char z (cs.map Value.int) (.int 0)) (hz : z = Int32.ofNat cs.length) (hn : cs.length < 2147483648) : ∀ i, i < cs.length → ¬ cs.getD i 0 < 0 ∧ ¬ 65535 < cs.getD i 0 := by
  intro i hi
  obtain ⟨cl, -, -, S, -, -, Gq⟩ := A
  have q := Gq i (by rw [S, hz, own_clamp hn]; exact hi)
  rw [own_getc] at q
  exact rng_char q
theorem own_and255 (x : Int32) : ¬ 255 < x &&& 255 := by
  have q := (c_and x 255 (by decide)).2
  rw [Int32.lt_iff_toInt_lt]; show ¬ ((255 : Int) < _); exact Int.not_lt.mpr q
theorem own_al0 : ∀ c ∈ ([] : List Int32), ¬ 255 < c := fun _ q => nomatch q
theorem own_alS {c : Int32} {L : List Int32} (q : ¬ 255 < c) (r : ∀ x ∈ L, ¬ 255 < x) : ∀ x ∈ c :: L, ¬ 255 < x := fun x z => (List.mem_cons.mp z).elim (fun u => u ▸ q) (r x)
def own_hi (c : Int32) : Value := .int (c >>> ((8 : Int32) &&& 31)).toInt8.toInt32
/-- the bytes of a String that is not compact -/
def own_u16 : List Int32 → List Value
  | [] => []
  | c :: cs => own_lo c :: own_hi c :: own_u16 cs
theorem own_u16len : ∀ cs : List Int32, (own_u16 cs).length = 2 * cs.length
  | [] => rfl
  | c :: cs => by simp [own_u16, own_u16len cs]; omega
theorem own_u16lo : ∀ (cs : List Int32) (j : Nat) (d : Value), j < cs.length → (own_u16 cs).getD (2 * j) d = own_lo (cs.getD j 0)
  | [], j, d, h => by simp at h
  | c :: cs, 0, d, h => by simp [own_u16]
  | c :: cs, j + 1, d, h => by
    have e : 2 * (j + 1) = 2 * j + 1 + 1 := by omega
    rw [e]; simpa [own_u16] using own_u16lo cs j d (by simpa using h)
theorem own_u16hi : ∀ (cs : List Int32) (j : Nat) (d : Value), j < cs.length → (own_u16 cs).getD (2 * j + 1) d = own_hi (cs.getD j 0)
  | [], j, d, h => by simp at h
  | c :: cs, 0, d, h => by simp [own_u16]
  | c :: cs, j + 1, d, h => by
    have e : 2 * (j + 1) + 1 = 2 * j + 1 + 1 + 1 := by omega
    rw [e]; simpa [own_u16] using own_u16hi cs j d (by simpa using h)
theorem own_u16turn : ∀ (cs : List Int32) (i : Nat), i < cs.length → ((own_u16 (cs.take i) ++ List.replicate (2 * (cs.length - i)) (Value.int (0 : Int32))).set (2 * i) (own_lo (cs.getD i 0))).set (2 * i + 1) (own_hi (cs.getD i 0)) = own_u16 (cs.take (i + 1)) ++ List.replicate (2 * (cs.length - (i + 1))) (Value.int (0 : Int32))
  | [], i, h => by simp at h
  | c :: cs, 0, h => by
    have e : 2 * ((c :: cs).length - 0) = 2 * cs.length + 1 + 1 := by simp; omega
    rw [e]; simp [own_u16, List.replicate_succ]
  | c :: cs, i + 1, h => by
    have e : 2 * (i + 1) = 2 * i + 1 + 1 := by omega
    have e2 : (c :: cs).length - (i + 1) = cs.length - i := by simp
    have e3 : (c :: cs).length - (i + 1 + 1) = cs.length - (i + 1) := by simp
    have q := own_u16turn cs i (by simpa using h)
    rw [e, e2, e3]
    simpa [own_u16] using q
theorem own_u16l (cs : List Int32) (i : Nat) (h : i ≤ cs.length) : (own_u16 (cs.take i) ++ List.replicate (2 * (cs.length - i)) (Value.int (0 : Int32))).length = 2 * cs.length := by
  rw [List.length_append, own_u16len, List.length_take, List.length_replicate, Nat.min_eq_left h]; omega
theorem own_shr0 (x : Int32) : x >>> ((0 : Int32) &&& 31) = x := by
  apply Int32.toInt_inj.mp
  rw [c_ishr x 0 0 (by decide)]; simp
theorem own_shl0 (x : Int32) : x <<< ((0 : Int32) &&& 31) = x := by
  apply Int32.toInt_inj.mp
  have q := c_ishl x 0 0 (by decide)
  have h1 := rng32 x; have h2 := rng32 (x <<< ((0 : Int32) &&& 31))
  omega
theorem own_join {c : Int32} (h0 : ¬ c < 0) (h1 : ¬ 65535 < c) : (((c.toInt8.toInt32 &&& 255) ||| (((c >>> ((8 : Int32) &&& 31)).toInt8.toInt32 &&& 255) <<< ((8 : Int32) &&& 31))).toUInt32.toUInt16.toUInt32.toInt32) = c := by
  have k0 : 0 ≤ c.toInt := by rw [Int32.lt_iff_toInt_lt] at h0; exact Int.not_lt.mp h0
  have k1 : c.toInt ≤ 65535 := by rw [Int32.lt_iff_toInt_lt] at h1; exact Int.not_lt.mp h1
  have a1 := c_i2b c
  have a2 := c_mask c.toInt8.toInt32 255 8 (by decide) (by decide)
  have b0 := c_ishr c 8 8 (by decide)
  have b1 := c_i2b (c >>> ((8 : Int32) &&& 31))
  have b2 := c_mask (c >>> ((8 : Int32) &&& 31)).toInt8.toInt32 255 8 (by decide) (by decide)
  generalize (c >>> ((8 : Int32) &&& 31)).toInt8.toInt32 = y at b1 b2 ⊢
  generalize c.toInt8.toInt32 = x at a1 a2 ⊢
  have b3 := c_ishl (y &&& 255) 8 8 (by decide)
  have r3 := rng32 ((y &&& 255) <<< ((8 : Int32) &&& 31))
  have v3 : ((y &&& 255) <<< ((8 : Int32) &&& 31)).toInt = (y &&& 255).toInt * 256 := by omega
  have o := c_or' (x &&& 255) ((y &&& 255) <<< ((8 : Int32) &&& 31)) 8 (by decide) 256 (by decide) (by rw [v3]; omega) (by omega) (by omega)
  have r4 := rng32 ((x &&& 255) ||| ((y &&& 255) <<< ((8 : Int32) &&& 31)))
  have f := c_i2c ((x &&& 255) ||| ((y &&& 255) <<< ((8 : Int32) &&& 31)))
  apply Int32.toInt_inj.mp
  omega
theorem own_neg31 {n : Nat} (h0 : 0 < n) (h1 : n < 1073741824) : (((Int32.ofNat n - Int32.ofNat (2 * n)).toUInt32 >>> ((31 : Int32) &&& 31).toUInt32).toInt32) = 1 := by
  apply Int32.toInt_inj.mp
  rw [c_iushr _ 31 31 (by decide) (by decide)]
  have q := c_isub (Int32.ofNat n) (Int32.ofNat (2 * n))
  rw [own_nat (by omega), own_nat (by omega)] at q
  have r := rng32 (Int32.ofNat n - Int32.ofNat (2 * n))
  show _ = (1 : Int)
  omega
/-- what a String of these signs holds -/
def own_cod (cs : List Int32) (cd zz : Int32) (bs : List Value) : Prop := (own_fst cs = cs.length ∧ cd = 0 ∧ zz = Int32.ofNat cs.length ∧ bs = own_lat cs) ∨ (own_fst cs < cs.length ∧ cd = 1 ∧ zz = Int32.ofNat (2 * cs.length) ∧ bs = own_u16 cs)
theorem own_all_of_fst {cs : List Int32} (h : own_fst cs = cs.length) : ∀ c ∈ cs, ¬ 255 < c := fun c hc => by
  obtain ⟨i, hi, e⟩ := List.getElem_of_mem hc
  have q := own_fst_lo cs i (by omega)
  rw [List.getD_eq_getElem?_getD, List.getElem?_eq_getElem hi] at q
  rw [← e]; simpa using q
theorem own_i2c_id {c : Int32} (h0 : ¬ c < 0) (h1 : ¬ 65535 < c) : nar .char c = c := by
  have k0 : 0 ≤ c.toInt := by rw [Int32.lt_iff_toInt_lt] at h0; exact Int.not_lt.mp h0
  have k1 : c.toInt ≤ 65535 := by rw [Int32.lt_iff_toInt_lt] at h1; exact Int.not_lt.mp h1
  have f := c_i2c c
  apply Int32.toInt_inj.mp
  show (c.toUInt32.toUInt16.toUInt32.toInt32).toInt = _
  omega
theorem own_cod_len {cs : List Int32} {cd zz : Int32} {bs : List Value} (h : own_cod cs cd zz bs) (hn : cs.length < 1073741824) : zz >>> (cd &&& 31) = Int32.ofNat cs.length := by
  rcases h with ⟨-, rfl, rfl, rfl⟩ | ⟨-, rfl, rfl, rfl⟩
  · exact own_shr0 _
  · apply Int32.toInt_inj.mp
    rw [c_ishr _ 1 1 (by decide), own_nat (by omega), own_nat (by omega)]; omega
theorem own_shr1 {n : Nat} (hn : n < 1073741824) : Int32.ofNat (2 * n) >>> ((1 : Int32) &&& 31) = Int32.ofNat n := by
  apply Int32.toInt_inj.mp
  rw [c_ishr _ 1 1 (by decide), own_nat (by omega), own_nat (by omega)]; omega
theorem own_cod_cd {cs : List Int32} {cd zz : Int32} {bs : List Value} (h : own_cod cs cd zz bs) : cd = 0 ∨ cd = 1 := by
  rcases h with ⟨-, rfl, -⟩ | ⟨-, rfl, -⟩
  · exact Or.inl rfl
  · exact Or.inr rfl
theorem own_nar01 {cd : Int32} (h : cd = 0 ∨ cd = 1) : nar .byte cd = cd := by rcases h with rfl | rfl <;> decide
theorem own_latget (cs : List Int32) {i : Nat} (hi : i < cs.length) (h : i < 2147483648) : (own_lat cs).getD (Int32.ofNat i).toNatClampNeg (.int (0 : Int32)) = .int (cs.getD i 0).toInt8.toInt32 := by
  rw [own_clamp h, own_lat, List.getD_eq_getElem?_getD, List.getD_eq_getElem?_getD, List.getElem?_map, List.getElem?_eq_getElem hi]; rfl
theorem own_back8 {c : Int32} (h0 : ¬ c < 0) (h1 : ¬ 255 < c) : ((c.toInt8.toInt32 &&& 255).toUInt32.toUInt16.toUInt32.toInt32) = c := by
  rw [i2c_mask]
  have k0 : 0 ≤ c.toInt := by rw [Int32.lt_iff_toInt_lt] at h0; exact Int.not_lt.mp h0
  have k1 : c.toInt ≤ 255 := by rw [Int32.lt_iff_toInt_lt] at h1; exact Int.not_lt.mp h1
  have a1 := c_i2b c
  have a2 := c_mask c.toInt8.toInt32 255 8 (by decide) (by decide)
  apply Int32.toInt_inj.mp
  omega
theorem own_255 {c : Int32} (h : ¬ 255 < c) : ¬ 65535 < c := by
  intro q; apply h; rw [Int32.lt_iff_toInt_lt] at q ⊢
  have : (65535 : Int32).toInt = 65535 := by decide
  have : (255 : Int32).toInt = 255 := by decide
  omega
theorem own_lat_rng {cs : List Int32} (hf : own_fst cs = cs.length) {i : Nat} (hi : i < cs.length) : ¬ 255 < cs.getD i 0 := own_fst_lo cs i (by omega)
/-- 1 where they are one text, else 0 -/
def own_eqv (cs ds : List Int32) : Int32 := if cs = ds then 1 else 0
def own_li (cs : List Int32) : List Int32 := cs.map fun c => c.toInt8.toInt32
theorem own_li_eq (cs : List Int32) : own_lat cs = (own_li cs).map Value.int := by simp [own_lat, own_li, own_lo, Function.comp_def]
def own_ui : List Int32 → List Int32
  | [] => []
  | c :: cs => c.toInt8.toInt32 :: (c >>> ((8 : Int32) &&& 31)).toInt8.toInt32 :: own_ui cs
theorem own_ui_eq : ∀ cs : List Int32, own_u16 cs = (own_ui cs).map Value.int
  | [] => rfl
  | c :: cs => by simp [own_u16, own_ui, own_lo, own_hi, own_ui_eq cs]
theorem own_li_len (cs : List Int32) : (own_li cs).length = cs.length := by simp [own_li]
theorem own_ui_len : ∀ cs : List Int32, (own_ui cs).length = 2 * cs.length
  | [] => rfl
  | c :: cs => by simp [own_ui, own_ui_len cs]; omega
theorem own_li_inj : ∀ {cs ds : List Int32}, (∀ c ∈ cs, ¬ c < 0 ∧ ¬ 255 < c) → (∀ c ∈ ds, ¬ c < 0 ∧ ¬ 255 < c) → own_li cs = own_li ds → cs = ds
  | [], [], _, _, _ => rfl
  | [], d :: ds, _, _, h => by simp [own_li] at h
  | c :: cs, [], _, _, h => by simp [own_li] at h
  | c :: cs, d :: ds, hc, hd, h => by
    simp only [own_li, List.map_cons, List.cons.injEq] at h
    have q1 := own_back8 (hc c (by simp)).1 (hc c (by simp)).2
    have q2 := own_back8 (hd d (by simp)).1 (hd d (by simp)).2
    rw [h.1, q2] at q1
    rw [q1, own_li_inj (fun x hx => hc x (by simp [hx])) (fun x hx => hd x (by simp [hx])) h.2]
theorem own_ui_inj : ∀ {cs ds : List Int32}, (∀ c ∈ cs, ¬ c < 0 ∧ ¬ 65535 < c) → (∀ c ∈ ds, ¬ c < 0 ∧ ¬ 65535 < c) → own_ui cs = own_ui ds → cs = ds
  | [], [], _, _, _ => rfl
  | [], d :: ds, _, _, h => by simp [own_ui] at h
  | c :: cs, [], _, _, h => by simp [own_ui] at h
  | c :: cs, d :: ds, hc, hd, h => by
    simp only [own_ui, List.cons.injEq] at h
    have q1 := own_join (hc c (by simp)).1 (hc c (by simp)).2
    have q2 := own_join (hd d (by simp)).1 (hd d (by simp)).2
    rw [h.1, h.2.1, q2] at q1
    rw [q1, own_ui_inj (fun x hx => hc x (by simp [hx])) (fun x hx => hd x (by simp [hx])) h.2.2]
theorem own_ext (is js : List Int32) (hl : is.length = js.length) (h : ∀ i, i < is.length → is.getD i 0 = js.getD i 0) : is = js := by
  apply List.ext_getElem hl
  intro i h1 h2
  have q := h i h1
  simpa [List.getD_eq_getElem?_getD, h1, h2] using q
/-- all signs are chars -/
def own_chs (cs : List Int32) : Prop := ∀ c ∈ cs, ¬ c < 0 ∧ ¬ 65535 < c
theorem own_chs_at {cs : List Int32} (h : own_chs cs) {i : Nat} (hi : i < cs.length) : ¬ cs.getD i 0 < 0 ∧ ¬ 65535 < cs.getD i 0 := by
  rw [List.getD_eq_getElem?_getD, List.getElem?_eq_getElem hi]; exact h _ (List.getElem_mem hi)
theorem own_cod_eq {cs ds : List Int32} {cd zz ze : Int32} {bs be : List Value} {ib ie : List Int32} (h1 : own_cod cs cd zz bs) (h2 : own_cod ds cd ze be) (k1 : own_chs cs) (k2 : own_chs ds) (e1 : bs = ib.map Value.int) (e2 : be = ie.map Value.int) : own_eqv ib ie = own_eqv cs ds := by
  have inj : ∀ {x y : List Int32}, x.map Value.int = y.map Value.int → x = y := fun {x y} q => by
    have := congrArg (List.map fun v => match v with | Value.int z => z | _ => 0) q
    simpa [Function.comp_def] using this
  have key : ib = ie ↔ cs = ds := by
    rcases h1 with ⟨f1, rfl, -, rfl⟩ | ⟨f1, rfl, -, rfl⟩
    · rcases h2 with ⟨f2, -, -, rfl⟩ | ⟨f2, q, -⟩
      · rw [own_li_eq] at e1 e2
        have a1 := inj e1; have a2 := inj e2
        subst a1 a2
        exact ⟨own_li_inj (fun c hc => ⟨(k1 c hc).1, own_all_of_fst f1 c hc⟩) (fun c hc => ⟨(k2 c hc).1, own_all_of_fst f2 c hc⟩), fun q => by rw [q]⟩
      · exact absurd q (by decide)
    · rcases h2 with ⟨f2, q, -⟩ | ⟨f2, -, -, rfl⟩
      · exact absurd q (by decide)
      · rw [own_ui_eq] at e1 e2
        have a1 := inj e1; have a2 := inj e2
        subst a1 a2
        exact ⟨own_ui_inj k1 k2, fun q => by rw [q]⟩
  unfold own_eqv
  by_cases q : cs = ds
  · rw [if_pos q, if_pos (key.mpr q)]
  · rw [if_neg q, if_neg fun r => q (key.mp r)]
theorem own_cod_ne {cs ds : List Int32} {cd ce zz ze : Int32} {bs be : List Value} (h1 : own_cod cs cd zz bs) (h2 : own_cod ds ce ze be) (hne : ¬ cd = ce) : own_eqv cs ds = 0 := by
  unfold own_eqv
  rw [if_neg]
  intro q; subst q
  rcases h1 with ⟨f1, rfl, -⟩ | ⟨f1, rfl, -⟩ <;> rcases h2 with ⟨f2, rfl, -⟩ | ⟨f2, rfl, -⟩ <;> first | exact hne rfl | omega
theorem own_cod_ints {cs : List Int32} {cd zz : Int32} {bs : List Value} (h : own_cod cs cd zz bs) : ∃ ib : List Int32, bs = ib.map Value.int ∧ zz = Int32.ofNat ib.length ∧ ib.length ≤ 2 * cs.length := by
  rcases h with ⟨-, -, rfl, rfl⟩ | ⟨-, -, rfl, rfl⟩
  · exact ⟨own_li cs, own_li_eq cs, by rw [own_li_len], by rw [own_li_len]; omega⟩
  · exact ⟨own_ui cs, own_ui_eq cs, by rw [own_ui_len], by rw [own_ui_len]; omega⟩
theorem own_eqv01 (cs ds : List Int32) : own_eqv cs ds = 0 ∨ own_eqv cs ds = 1 := by unfold own_eqv; split <;> simp
theorem own_nz01 {x : Int32} (h : x = 0 ∨ x = 1) : nar .boolean x = x := by rcases h with rfl | rfl <;> decide
theorem own_same_txt {Z : State} {h : Heap} {t : Addr} {k1 k2 : ClassId} {cd zz ze : Int32} {bs be : List Value} {cs ds : List Int32} (A : Arv Z h t k1 .byte zz bs (.int 0)) (B : Arv Z h t k2 .byte ze be (.int 0)) (h1 : own_cod cs cd zz bs) (h2 : own_cod ds cd ze be) (k1 : own_chs cs) (k2 : own_chs ds) (n1 : cs.length < 536870912) (n2 : ds.length < 536870912) : own_eqv cs ds = 1 := by
  obtain ⟨ib, ei, ezi, eli⟩ := own_cod_ints h1
  obtain ⟨ie, ej, ezj, elj⟩ := own_cod_ints h2
  have key := own_cod_eq h1 h2 k1 k2 ei ej
  rw [← key]
  apply if_pos
  have e1 : zz.toNatClampNeg = ib.length := by rw [ezi]; exact own_clamp (by omega)
  have e2 : ze.toNatClampNeg = ie.length := by rw [ezj]; exact own_clamp (by omega)
  have hl : ib.length = ie.length := by
    rcases Nat.decEq ib.length ie.length with q | q
    · exact absurd rfl (arv_ne A B (Or.inl (by rw [e1, e2]; exact q)))
    · exact q
  refine own_ext ib ie hl fun i hi => ?_
  rcases (inferInstance : Decidable (ib.getD i 0 = ie.getD i 0)) with q | q
  · refine absurd rfl (arv_ne A B (Or.inr ⟨i, by rw [e1]; exact hi, fun r => q ?_⟩))
    rw [ei, ej, own_getc, own_getc] at r
    exact Value.int.inj r
  · exact q
/-- the first place of the sign, or the length -/
def own_pos (ch : Int32) : List Int32 → Nat
  | [] => 0
  | c :: cs => if c = ch then 0 else own_pos ch cs + 1
theorem own_pos_le (ch : Int32) : ∀ cs : List Int32, own_pos ch cs ≤ cs.length
  | [] => Nat.le_refl _
  | c :: cs => by
    unfold own_pos; split
    · simp
    · have := own_pos_le ch cs; simp; omega
theorem own_pos_ne (ch : Int32) : ∀ (cs : List Int32) (i : Nat), i < own_pos ch cs → ¬ cs.getD i 0 = ch
  | [], i, h => by simp [own_pos] at h
  | c :: cs, i, h => by
    unfold own_pos at h; split at h
    · omega
    · rename_i hc
      cases i with
      | zero => simpa using hc
      | succ i => simpa using own_pos_ne ch cs i (by omega)
theorem own_pos_eq (ch : Int32) : ∀ (cs : List Int32), own_pos ch cs < cs.length → cs.getD (own_pos ch cs) 0 = ch
  | [], h => by simp at h
  | c :: cs, h => by
    unfold own_pos at h ⊢; split
    · rename_i hc; simpa using hc
    · rename_i hc
      rw [if_neg hc] at h
      simpa using own_pos_eq ch cs (by simpa using h)
/-- indexOf -/
def own_ix (ch : Int32) (cs : List Int32) : Int32 := if own_pos ch cs < cs.length then Int32.ofNat (own_pos ch cs) else -1
theorem own_b44 {c : Int32} (h0 : ¬ c < 0) (h1 : ¬ 255 < c) (ch : Int32) (k0 : ¬ ch < 0) (k1 : ¬ 255 < ch) : c.toInt8.toInt32 = ch.toInt8.toInt32 ↔ c = ch := by
  refine ⟨fun q => ?_, fun q => by rw [q]⟩
  have a := own_back8 h0 h1; have b := own_back8 k0 k1
  rw [q] at a; exact a.symm.trans b
theorem own_i2c_rng (x : Int32) : ¬ x.toUInt32.toUInt16.toUInt32.toInt32 < 0 ∧ ¬ 65535 < x.toUInt32.toUInt16.toUInt32.toInt32 := by
  have f := c_i2c x
  constructor
  · rw [Int32.lt_iff_toInt_lt, show (0 : Int32).toInt = 0 from by decide]; omega
  · rw [Int32.lt_iff_toInt_lt, show (65535 : Int32).toInt = 65535 from by decide]; omega
theorem own_c0 : own_chs [] := fun _ q => nomatch q
theorem own_cS {c : Int32} {L : List Int32} (q : ¬ c < 0 ∧ ¬ 65535 < c) (r : own_chs L) : own_chs (c :: L) := fun x z => (List.mem_cons.mp z).elim (fun u => u ▸ q) (r x)
theorem own_inj {a b : Nat} (ha : a < 2147483648) (hb : b < 2147483648) (h : Int32.ofNat a = Int32.ofNat b) : a = b := by
  have q := congrArg Int32.toNatClampNeg h
  rwa [own_clamp ha, own_clamp hb] at q
theorem own_subn {f n : Nat} : Int32.ofNat (f + n) - Int32.ofNat f = Int32.ofNat n := by
  rw [Int32.ofNat_add, Int32.add_comm, Int32.add_sub_cancel]
theorem own_subm {f n : Nat} (h : f ≤ n) : Int32.ofNat n - Int32.ofNat f = Int32.ofNat (n - f) := by
  rw [show Int32.ofNat n = Int32.ofNat (f + (n - f)) from by rw [Nat.add_sub_cancel' h]]; exact own_subn
theorem own_nlt {a b : Nat} (h : a ≤ b) (hb : b < 2147483648) : ¬ Int32.ofNat b < Int32.ofNat a := by
  rw [Int32.lt_iff_toInt_lt, own_nat hb, own_nat (by omega)]; omega
theorem own_orn {a b : Nat} (ha : a < 2147483648) (hb : b < 2147483648) : ¬ ((Int32.ofNat a ||| (0 : Int32)) ||| Int32.ofNat b) < 0 := by
  rw [Int32.or_zero]
  have e : Int32.ofNat a ||| Int32.ofNat b = Int32.ofNat (a ||| b) := by
    apply Int32.toBitVec_inj.mp
    rw [Int32.toBitVec_or, Int32.toBitVec_ofNat', Int32.toBitVec_ofNat', Int32.toBitVec_ofNat', BitVec.ofNat_or]
  rw [e]; exact own_nn (Nat.or_lt_two_pow (n := 31) ha hb)
theorem own_cpy (vs : List Value) (d : Value) (f n : Nat) (w : Value) (h : f + n ≤ vs.length) : (List.replicate n w).take 0 ++ (List.range n).map (fun i => vs.getD (f + i) d) ++ (List.replicate n w).drop (0 + n) = (vs.drop f).take n := by
  apply List.ext_getElem?
  intro j
  by_cases hj : j < n
  · simp [hj, List.getElem?_append, List.getElem?_take, List.getD_eq_getElem?_getD]
    rw [List.getElem?_eq_getElem (show f + j < vs.length by omega)]; rfl
  · simp [hj, List.getElem?_append, List.getElem?_take]
theorem own_gset {L : List Int32} {i j : Nat} {x : Int32} (h : i ≠ j) : (L.set i x).getD j 0 = L.getD j 0 := by
  rw [List.getD_eq_getElem?_getD, List.getElem?_set_ne h, List.getD_eq_getElem?_getD]
theorem own_gself {L : List Int32} {i : Nat} {x : Int32} (h : i < L.length) : (L.set i x).getD i 0 = x := by
  rw [List.getD_eq_getElem?_getD, List.getElem?_set_self h]; rfl
theorem own_grep (n j : Nat) : (List.replicate n (0 : Int32)).getD j 0 = 0 := by
  rw [List.getD_eq_getElem?_getD, List.getElem?_replicate]; split <;> rfl
theorem own_mset (cs : List Int32) (i : Nat) (x : Int32) : (cs.map Value.int).set i (.int x) = (cs.set i x).map Value.int := List.map_set.symm
theorem own_padz (n i : Nat) : ((List.replicate n (0 : Int32)).map Value.int).getD i (.int 0) = ([] : List Value).getD i (.int 0) := by
  rw [List.map_replicate, List.getD_eq_getElem?_getD, List.getElem?_replicate]; split <;> rfl
theorem own_takeg {cs : List Int32} {n i : Nat} (h : i < n) : (cs.take n).getD i 0 = cs.getD i 0 := by
  rw [List.getD_eq_getElem?_getD, List.getElem?_take_of_lt h, List.getD_eq_getElem?_getD]
def own_minv (x z : Int32) : Int32 := if z < x then z else x
theorem own_min_nat {a b : Nat} (ha : a < 2147483648) (hb : b < 2147483648) : own_minv (Int32.ofNat a) (Int32.ofNat b) = Int32.ofNat (min a b) := by
  unfold own_minv
  simp only [Int32.lt_iff_toInt_lt, own_nat ha, own_nat hb]
  by_cases h : b < a
  · rw [if_pos (by omega), Nat.min_eq_right (by omega)]
  · rw [if_neg (by omega), Nat.min_eq_left (by omega)]
theorem own_min_r {a b : Nat} (h : b ≤ a) (ha : a < 2147483648) : own_minv (Int32.ofNat a) (Int32.ofNat b) = Int32.ofNat b := by
  rw [own_min_nat ha (by omega), Nat.min_eq_right h]
theorem own_lat_cut (cs : List Int32) (f n : Nat) : ((own_lat cs).drop f).take n = own_lat ((cs.drop f).take n) := by
  simp [own_lat, List.map_drop, List.map_take]
theorem own_u16_take : ∀ (cs : List Int32) (n : Nat), (own_u16 cs).take (2 * n) = own_u16 (cs.take n)
  | [], n => by simp [own_u16]
  | c :: cs, 0 => by simp [own_u16]
  | c :: cs, n + 1 => by
    rw [show 2 * (n + 1) = 2 * n + 1 + 1 by omega]
    simp [own_u16, own_u16_take cs n]
theorem own_fst_cut {cs : List Int32} (h : own_fst cs = cs.length) (f n : Nat) : own_fst ((cs.drop f).take n) = ((cs.drop f).take n).length :=
  own_fst_all _ fun c hc => own_all_of_fst h c (List.mem_of_mem_drop (List.mem_of_mem_take hc))
theorem own_chs_take {cs : List Int32} (h : own_chs cs) (n : Nat) : own_chs (cs.take n) := fun c hc => h c (List.mem_of_mem_take hc)
theorem own_chs_set {cs : List Int32} (h : own_chs cs) {i : Nat} {x : Int32} (hx : ¬ x < 0 ∧ ¬ 65535 < x) : own_chs (cs.set i x) := fun c hc => by
  rcases List.mem_or_eq_of_mem_set hc with q | q
  · exact h c q
  · subst q; exact hx
theorem own_chs_rep (n : Nat) : own_chs (List.replicate n 0) := fun c hc => by
  rw [List.eq_of_mem_replicate hc]; decide
theorem own_h43 {cs : List Int32} (hz : ∀ j, j < 43 → j ≠ 0 → j ≠ 42 → cs.getD j 0 = 0) (hl : 43 ≤ cs.length) : ((List.replicate 43 (0 : Int32)).set 0 (cs.getD 0 0)).set 42 (cs.getD 42 0) = cs.take 43 := by
  apply List.ext_getElem?
  intro j
  by_cases hj : j < 43
  · rw [List.getElem?_take_of_lt hj, List.getElem?_set, List.getElem?_set]
    have e : cs[j]? = some (cs.getD j 0) := by rw [List.getD_eq_getElem?_getD, List.getElem?_eq_getElem (show j < cs.length by omega)]; rfl
    rw [e]
    by_cases h42 : 42 = j
    · subst h42; simp
    · by_cases h0 : 0 = j
      · subst h0; simp
      · rw [if_neg h42, if_neg h0, List.getElem?_replicate, if_pos hj, hz j hj (Ne.symm h0) (Ne.symm h42)]
  · rw [List.getElem?_eq_none (by simp; omega), List.getElem?_eq_none (by simp; omega)]
/-- the token has a handle -/
def own_tok (cs : List Int32) : Prop := cs.length = 87 ∧ cs.getD 43 0 = 46
def own_szs (n : Nat) : Prop := n = 87 ∨ n = 86 ∨ n = 88 ∨ n = 44 ∨ n = 43 ∨ n = 1 ∨ n = 0
theorem own_46 : ¬ (46 : Int32) < 0 ∧ ¬ 65535 < (46 : Int32) := by decide
theorem d_jdk_29_69_0 : decode jdk_29_method_69_code 0 = .ok (.iload_n 0, 1) := by decide +kernel
theorem d_jdk_29_69_1 : decode jdk_29_method_69_code 1 = .ok (.iload_n 1, 1) := by decide +kernel
theorem d_jdk_29_69_2 : decode jdk_29_method_69_code 2 = .ok (.if_icmp .gt 7, 3) := by decide +kernel
theorem d_jdk_29_69_5 : decode jdk_29_method_69_code 5 = .ok (.iload_n 0, 1) := by decide +kernel
theorem d_jdk_29_69_6 : decode jdk_29_method_69_code 6 = .ok (.goto 4, 3) := by decide +kernel
theorem d_jdk_29_69_9 : decode jdk_29_method_69_code 9 = .ok (.iload_n 1, 1) := by decide +kernel
theorem d_jdk_29_69_10 : decode jdk_29_method_69_code 10 = .ok (.ireturn, 1) := by decide +kernel
theorem d_jdk_31_10_0 : decode jdk_31_method_10_code 0 = .ok (.aload_n 0, 1) := by decide +kernel
theorem d_jdk_31_10_1 : decode jdk_31_method_10_code 1 = .ok (.ifnonnull 11, 3) := by decide +kernel
theorem d_jdk_31_10_12 : decode jdk_31_method_10_code 12 = .ok (.aload_n 0, 1) := by decide +kernel
theorem d_jdk_31_10_13 : decode jdk_31_method_10_code 13 = .ok (.areturn, 1) := by decide +kernel
theorem d_jdk_32_1_0 : decode jdk_32_method_1_code 0 = .ok (.getstatic 1, 3) := by decide +kernel
theorem d_jdk_32_1_3 : decode jdk_32_method_1_code 3 = .ok (.astore_n 0, 1) := by decide +kernel
theorem d_jdk_32_1_4 : decode jdk_32_method_1_code 4 = .ok (.aload_n 0, 1) := by decide +kernel
theorem d_jdk_32_1_5 : decode jdk_32_method_1_code 5 = .ok (.areturn, 1) := by decide +kernel
theorem d_jdk_32_2_0 : decode jdk_32_method_2_code 0 = .ok (.aload_n 0, 1) := by decide +kernel
theorem d_jdk_32_2_1 : decode jdk_32_method_2_code 1 = .ok (.invokespecial 7, 3) := by decide +kernel
theorem d_jdk_32_2_4 : decode jdk_32_method_2_code 4 = .ok (.aload_n 0, 1) := by decide +kernel
theorem d_jdk_32_2_5 : decode jdk_32_method_2_code 5 = .ok (.aload_n 1, 1) := by decide +kernel
theorem d_jdk_32_2_6 : decode jdk_32_method_2_code 6 = .ok (.putfield 13, 3) := by decide +kernel
theorem d_jdk_32_2_9 : decode jdk_32_method_2_code 9 = .ok (.return_, 1) := by decide +kernel
theorem d_jdk_32_3_0 : decode jdk_32_method_3_code 0 = .ok (.new 2, 3) := by decide +kernel
theorem d_jdk_32_3_3 : decode jdk_32_method_3_code 3 = .ok (.dup, 1) := by decide +kernel
theorem d_jdk_32_3_4 : decode jdk_32_method_3_code 4 = .ok (.aload_n 0, 1) := by decide +kernel
theorem d_jdk_32_3_5 : decode jdk_32_method_3_code 5 = .ok (.invokestatic 17, 3) := by decide +kernel
theorem d_jdk_32_3_8 : decode jdk_32_method_3_code 8 = .ok (.invokespecial 23, 3) := by decide +kernel
theorem d_jdk_32_3_11 : decode jdk_32_method_3_code 11 = .ok (.areturn, 1) := by decide +kernel
theorem d_jdk_32_5_0 : decode jdk_32_method_5_code 0 = .ok (.aload_n 0, 1) := by decide +kernel
theorem d_jdk_32_5_1 : decode jdk_32_method_5_code 1 = .ok (.getfield 13, 3) := by decide +kernel
theorem d_jdk_32_5_4 : decode jdk_32_method_5_code 4 = .ok (.ifnonnull 13, 3) := by decide +kernel
theorem d_jdk_32_5_17 : decode jdk_32_method_5_code 17 = .ok (.aload_n 0, 1) := by decide +kernel
theorem d_jdk_32_5_18 : decode jdk_32_method_5_code 18 = .ok (.getfield 13, 3) := by decide +kernel
theorem d_jdk_32_5_21 : decode jdk_32_method_5_code 21 = .ok (.areturn, 1) := by decide +kernel
theorem d_jdk_32_6_0 : decode jdk_32_method_6_code 0 = .ok (.aload_n 0, 1) := by decide +kernel
theorem d_jdk_32_6_1 : decode jdk_32_method_6_code 1 = .ok (.getfield 13, 3) := by decide +kernel
theorem d_jdk_32_6_4 : decode jdk_32_method_6_code 4 = .ok (.ifnull 7, 3) := by decide +kernel
theorem d_jdk_32_6_7 : decode jdk_32_method_6_code 7 = .ok (.iconst 1, 1) := by decide +kernel
theorem d_jdk_32_6_8 : decode jdk_32_method_6_code 8 = .ok (.goto 4, 3) := by decide +kernel
theorem d_jdk_32_6_11 : decode jdk_32_method_6_code 11 = .ok (.iconst 0, 1) := by decide +kernel
theorem d_jdk_32_6_12 : decode jdk_32_method_6_code 12 = .ok (.ireturn, 1) := by decide +kernel
theorem d_jdk_41_11_0 : decode jdk_41_method_11_code 0 = .ok (.iload_n 0, 1) := by decide +kernel
theorem d_jdk_41_11_1 : decode jdk_41_method_11_code 1 = .ok (.ifCond .lt 8, 3) := by decide +kernel
theorem d_jdk_41_11_4 : decode jdk_41_method_11_code 4 = .ok (.iload_n 0, 1) := by decide +kernel
theorem d_jdk_41_11_5 : decode jdk_41_method_11_code 5 = .ok (.iload_n 1, 1) := by decide +kernel
theorem d_jdk_41_11_6 : decode jdk_41_method_11_code 6 = .ok (.if_icmp .lt 10, 3) := by decide +kernel
theorem d_jdk_41_11_16 : decode jdk_41_method_11_code 16 = .ok (.iload_n 0, 1) := by decide +kernel
theorem d_jdk_41_11_17 : decode jdk_41_method_11_code 17 = .ok (.ireturn, 1) := by decide +kernel
theorem d_jdk_41_12_0 : decode jdk_41_method_12_code 0 = .ok (.iload_n 0, 1) := by decide +kernel
theorem d_jdk_41_12_1 : decode jdk_41_method_12_code 1 = .ok (.ifCond .lt 13, 3) := by decide +kernel
theorem d_jdk_41_12_4 : decode jdk_41_method_12_code 4 = .ok (.iload_n 0, 1) := by decide +kernel
theorem d_jdk_41_12_5 : decode jdk_41_method_12_code 5 = .ok (.iload_n 1, 1) := by decide +kernel
theorem d_jdk_41_12_6 : decode jdk_41_method_12_code 6 = .ok (.if_icmp .gt 8, 3) := by decide +kernel
theorem d_jdk_41_12_9 : decode jdk_41_method_12_code 9 = .ok (.iload_n 1, 1) := by decide +kernel
theorem d_jdk_41_12_10 : decode jdk_41_method_12_code 10 = .ok (.iload_n 2, 1) := by decide +kernel
theorem d_jdk_41_12_11 : decode jdk_41_method_12_code 11 = .ok (.if_icmp .le 11, 3) := by decide +kernel
theorem d_jdk_41_12_22 : decode jdk_41_method_12_code 22 = .ok (.iload_n 0, 1) := by decide +kernel
theorem d_jdk_41_12_23 : decode jdk_41_method_12_code 23 = .ok (.ireturn, 1) := by decide +kernel
theorem d_jdk_41_13_0 : decode jdk_41_method_13_code 0 = .ok (.iload_n 2, 1) := by decide +kernel
theorem d_jdk_41_13_1 : decode jdk_41_method_13_code 1 = .ok (.iload_n 0, 1) := by decide +kernel
theorem d_jdk_41_13_2 : decode jdk_41_method_13_code 2 = .ok (.ior, 1) := by decide +kernel
theorem d_jdk_41_13_3 : decode jdk_41_method_13_code 3 = .ok (.iload_n 1, 1) := by decide +kernel
theorem d_jdk_41_13_4 : decode jdk_41_method_13_code 4 = .ok (.ior, 1) := by decide +kernel
theorem d_jdk_41_13_5 : decode jdk_41_method_13_code 5 = .ok (.ifCond .lt 10, 3) := by decide +kernel
theorem d_jdk_41_13_8 : decode jdk_41_method_13_code 8 = .ok (.iload_n 1, 1) := by decide +kernel
theorem d_jdk_41_13_9 : decode jdk_41_method_13_code 9 = .ok (.iload_n 2, 1) := by decide +kernel
theorem d_jdk_41_13_10 : decode jdk_41_method_13_code 10 = .ok (.iload_n 0, 1) := by decide +kernel
theorem d_jdk_41_13_11 : decode jdk_41_method_13_code 11 = .ok (.isub, 1) := by decide +kernel
theorem d_jdk_41_13_12 : decode jdk_41_method_13_code 12 = .ok (.if_icmp .le 11, 3) := by decide +kernel
theorem d_jdk_41_13_23 : decode jdk_41_method_13_code 23 = .ok (.iload_n 0, 1) := by decide +kernel
theorem d_jdk_41_13_24 : decode jdk_41_method_13_code 24 = .ok (.ireturn, 1) := by decide +kernel
theorem d_jdk_42_149_0 : decode jdk_42_method_149_code 0 = .ok (.aload_n 0, 1) := by decide +kernel
theorem d_jdk_42_149_1 : decode jdk_42_method_149_code 1 = .ok (.invokespecial 1, 3) := by decide +kernel
theorem d_jdk_42_149_4 : decode jdk_42_method_149_code 4 = .ok (.iload_n 3, 1) := by decide +kernel
theorem d_jdk_42_149_5 : decode jdk_42_method_149_code 5 = .ok (.ifCond .ne 22, 3) := by decide +kernel
theorem d_jdk_42_149_8 : decode jdk_42_method_149_code 8 = .ok (.aload_n 0, 1) := by decide +kernel
theorem d_jdk_42_149_9 : decode jdk_42_method_149_code 9 = .ok (.ldc 7, 2) := by decide +kernel
theorem d_jdk_42_149_11 : decode jdk_42_method_149_code 11 = .ok (.getfield 9, 3) := by decide +kernel
theorem d_jdk_42_149_14 : decode jdk_42_method_149_code 14 = .ok (.putfield 9, 3) := by decide +kernel
theorem d_jdk_42_149_17 : decode jdk_42_method_149_code 17 = .ok (.aload_n 0, 1) := by decide +kernel
theorem d_jdk_42_149_18 : decode jdk_42_method_149_code 18 = .ok (.ldc 7, 2) := by decide +kernel
theorem d_jdk_42_149_20 : decode jdk_42_method_149_code 20 = .ok (.getfield 15, 3) := by decide +kernel
theorem d_jdk_42_149_23 : decode jdk_42_method_149_code 23 = .ok (.putfield 15, 3) := by decide +kernel
theorem d_jdk_42_149_26 : decode jdk_42_method_149_code 26 = .ok (.return_, 1) := by decide +kernel
theorem d_jdk_42_149_27 : decode jdk_42_method_149_code 27 = .ok (.getstatic 38, 3) := by decide +kernel
theorem d_jdk_42_149_30 : decode jdk_42_method_149_code 30 = .ok (.ifCond .eq 28, 3) := by decide +kernel
theorem d_jdk_42_149_33 : decode jdk_42_method_149_code 33 = .ok (.aload_n 1, 1) := by decide +kernel
theorem d_jdk_42_149_34 : decode jdk_42_method_149_code 34 = .ok (.iload_n 2, 1) := by decide +kernel
theorem d_jdk_42_149_35 : decode jdk_42_method_149_code 35 = .ok (.iload_n 3, 1) := by decide +kernel
theorem d_jdk_42_149_36 : decode jdk_42_method_149_code 36 = .ok (.invokestatic 177, 3) := by decide +kernel
theorem d_jdk_42_149_39 : decode jdk_42_method_149_code 39 = .ok (.astore 5, 2) := by decide +kernel
theorem d_jdk_42_149_41 : decode jdk_42_method_149_code 41 = .ok (.aload_n 0, 1) := by decide +kernel
theorem d_jdk_42_149_42 : decode jdk_42_method_149_code 42 = .ok (.aload 5, 2) := by decide +kernel
theorem d_jdk_42_149_44 : decode jdk_42_method_149_code 44 = .ok (.iload_n 3, 1) := by decide +kernel
theorem d_jdk_42_149_45 : decode jdk_42_method_149_code 45 = .ok (.invokestatic 47, 3) := by decide +kernel
theorem d_jdk_42_149_48 : decode jdk_42_method_149_code 48 = .ok (.putfield 15, 3) := by decide +kernel
theorem d_jdk_42_149_51 : decode jdk_42_method_149_code 51 = .ok (.aload_n 0, 1) := by decide +kernel
theorem d_jdk_42_149_52 : decode jdk_42_method_149_code 52 = .ok (.aload 5, 2) := by decide +kernel
theorem d_jdk_42_149_54 : decode jdk_42_method_149_code 54 = .ok (.putfield 9, 3) := by decide +kernel
theorem d_jdk_42_149_57 : decode jdk_42_method_149_code 57 = .ok (.return_, 1) := by decide +kernel
theorem d_jdk_42_151_0 : decode jdk_42_method_151_code 0 = .ok (.aload_n 0, 1) := by decide +kernel
theorem d_jdk_42_151_1 : decode jdk_42_method_151_code 1 = .ok (.invokespecial 1, 3) := by decide +kernel
theorem d_jdk_42_151_4 : decode jdk_42_method_151_code 4 = .ok (.aload_n 0, 1) := by decide +kernel
theorem d_jdk_42_151_5 : decode jdk_42_method_151_code 5 = .ok (.aload_n 1, 1) := by decide +kernel
theorem d_jdk_42_151_6 : decode jdk_42_method_151_code 6 = .ok (.putfield 9, 3) := by decide +kernel
theorem d_jdk_42_151_9 : decode jdk_42_method_151_code 9 = .ok (.aload_n 0, 1) := by decide +kernel
theorem d_jdk_42_151_10 : decode jdk_42_method_151_code 10 = .ok (.iload_n 2, 1) := by decide +kernel
theorem d_jdk_42_151_11 : decode jdk_42_method_151_code 11 = .ok (.putfield 15, 3) := by decide +kernel
theorem d_jdk_42_151_14 : decode jdk_42_method_151_code 14 = .ok (.return_, 1) := by decide +kernel
theorem d_jdk_42_152_0 : decode jdk_42_method_152_code 0 = .ok (.getstatic 38, 3) := by decide +kernel
theorem d_jdk_42_152_3 : decode jdk_42_method_152_code 3 = .ok (.ifCond .eq 10, 3) := by decide +kernel
theorem d_jdk_42_152_6 : decode jdk_42_method_152_code 6 = .ok (.aload_n 0, 1) := by decide +kernel
theorem d_jdk_42_152_7 : decode jdk_42_method_152_code 7 = .ok (.getfield 15, 3) := by decide +kernel
theorem d_jdk_42_152_10 : decode jdk_42_method_152_code 10 = .ok (.goto 4, 3) := by decide +kernel
theorem d_jdk_42_152_14 : decode jdk_42_method_152_code 14 = .ok (.ireturn, 1) := by decide +kernel
theorem d_jdk_42_154_0 : decode jdk_42_method_154_code 0 = .ok (.getstatic 38, 3) := by decide +kernel
theorem d_jdk_42_154_3 : decode jdk_42_method_154_code 3 = .ok (.ifCond .eq 14, 3) := by decide +kernel
theorem d_jdk_42_154_6 : decode jdk_42_method_154_code 6 = .ok (.aload_n 0, 1) := by decide +kernel
theorem d_jdk_42_154_7 : decode jdk_42_method_154_code 7 = .ok (.getfield 15, 3) := by decide +kernel
theorem d_jdk_42_154_10 : decode jdk_42_method_154_code 10 = .ok (.ifCond .ne 7, 3) := by decide +kernel
theorem d_jdk_42_154_13 : decode jdk_42_method_154_code 13 = .ok (.iconst 1, 1) := by decide +kernel
theorem d_jdk_42_154_14 : decode jdk_42_method_154_code 14 = .ok (.goto 4, 3) := by decide +kernel
theorem d_jdk_42_154_17 : decode jdk_42_method_154_code 17 = .ok (.iconst 0, 1) := by decide +kernel
theorem d_jdk_42_154_18 : decode jdk_42_method_154_code 18 = .ok (.ireturn, 1) := by decide +kernel
theorem d_jdk_42_155_0 : decode jdk_42_method_155_code 0 = .ok (.iload_n 0, 1) := by decide +kernel
theorem d_jdk_42_155_1 : decode jdk_42_method_155_code 1 = .ok (.iload_n 1, 1) := by decide +kernel
theorem d_jdk_42_155_2 : decode jdk_42_method_155_code 2 = .ok (.getstatic 1053, 3) := by decide +kernel
theorem d_jdk_42_155_5 : decode jdk_42_method_155_code 5 = .ok (.invokestatic 1059, 3) := by decide +kernel
theorem d_jdk_42_155_8 : decode jdk_42_method_155_code 8 = .ok (.pop, 1) := by decide +kernel
theorem d_jdk_42_155_9 : decode jdk_42_method_155_code 9 = .ok (.return_, 1) := by decide +kernel
theorem d_jdk_42_157_0 : decode jdk_42_method_157_code 0 = .ok (.iload_n 0, 1) := by decide +kernel
theorem d_jdk_42_157_1 : decode jdk_42_method_157_code 1 = .ok (.iload_n 1, 1) := by decide +kernel
theorem d_jdk_42_157_2 : decode jdk_42_method_157_code 2 = .ok (.iload_n 2, 1) := by decide +kernel
theorem d_jdk_42_157_3 : decode jdk_42_method_157_code 3 = .ok (.getstatic 1053, 3) := by decide +kernel
theorem d_jdk_42_157_6 : decode jdk_42_method_157_code 6 = .ok (.invokestatic 1065, 3) := by decide +kernel
theorem d_jdk_42_157_9 : decode jdk_42_method_157_code 9 = .ok (.ireturn, 1) := by decide +kernel
theorem d_jdk_42_158_0 : decode jdk_42_method_158_code 0 = .ok (.iload_n 0, 1) := by decide +kernel
theorem d_jdk_42_158_1 : decode jdk_42_method_158_code 1 = .ok (.iload_n 1, 1) := by decide +kernel
theorem d_jdk_42_158_2 : decode jdk_42_method_158_code 2 = .ok (.iload_n 2, 1) := by decide +kernel
theorem d_jdk_42_158_3 : decode jdk_42_method_158_code 3 = .ok (.getstatic 1053, 3) := by decide +kernel
theorem d_jdk_42_158_6 : decode jdk_42_method_158_code 6 = .ok (.invokestatic 1062, 3) := by decide +kernel
theorem d_jdk_42_158_9 : decode jdk_42_method_158_code 9 = .ok (.pop, 1) := by decide +kernel
theorem d_jdk_42_158_10 : decode jdk_42_method_158_code 10 = .ok (.return_, 1) := by decide +kernel
theorem d_jdk_42_3_0 : decode jdk_42_method_3_code 0 = .ok (.aload_n 0, 1) := by decide +kernel
theorem d_jdk_42_3_1 : decode jdk_42_method_3_code 1 = .ok (.aload_n 1, 1) := by decide +kernel
theorem d_jdk_42_3_2 : decode jdk_42_method_3_code 2 = .ok (.iconst 0, 1) := by decide +kernel
theorem d_jdk_42_3_3 : decode jdk_42_method_3_code 3 = .ok (.aload_n 1, 1) := by decide +kernel
theorem d_jdk_42_3_4 : decode jdk_42_method_3_code 4 = .ok (.arraylength, 1) := by decide +kernel
theorem d_jdk_42_3_5 : decode jdk_42_method_3_code 5 = .ok (.aconst_null, 1) := by decide +kernel
theorem d_jdk_42_3_6 : decode jdk_42_method_3_code 6 = .ok (.invokespecial 27, 3) := by decide +kernel
theorem d_jdk_42_3_9 : decode jdk_42_method_3_code 9 = .ok (.return_, 1) := by decide +kernel
theorem d_jdk_42_54_0 : decode jdk_42_method_54_code 0 = .ok (.aload_n 0, 1) := by decide +kernel
theorem d_jdk_42_54_1 : decode jdk_42_method_54_code 1 = .ok (.getfield 9, 3) := by decide +kernel
theorem d_jdk_42_54_4 : decode jdk_42_method_54_code 4 = .ok (.arraylength, 1) := by decide +kernel
theorem d_jdk_42_54_5 : decode jdk_42_method_54_code 5 = .ok (.aload_n 0, 1) := by decide +kernel
theorem d_jdk_42_54_6 : decode jdk_42_method_54_code 6 = .ok (.invokevirtual 335, 3) := by decide +kernel
theorem d_jdk_42_54_9 : decode jdk_42_method_54_code 9 = .ok (.ishr, 1) := by decide +kernel
theorem d_jdk_42_54_10 : decode jdk_42_method_54_code 10 = .ok (.ireturn, 1) := by decide +kernel
theorem d_jdk_42_56_0 : decode jdk_42_method_56_code 0 = .ok (.aload_n 0, 1) := by decide +kernel
theorem d_jdk_42_56_1 : decode jdk_42_method_56_code 1 = .ok (.invokevirtual 492, 3) := by decide +kernel
theorem d_jdk_42_56_4 : decode jdk_42_method_56_code 4 = .ok (.ifCond .eq 12, 3) := by decide +kernel
theorem d_jdk_42_56_7 : decode jdk_42_method_56_code 7 = .ok (.aload_n 0, 1) := by decide +kernel
theorem d_jdk_42_56_8 : decode jdk_42_method_56_code 8 = .ok (.getfield 9, 3) := by decide +kernel
theorem d_jdk_42_56_11 : decode jdk_42_method_56_code 11 = .ok (.iload_n 1, 1) := by decide +kernel
theorem d_jdk_42_56_12 : decode jdk_42_method_56_code 12 = .ok (.invokestatic 495, 3) := by decide +kernel
theorem d_jdk_42_56_15 : decode jdk_42_method_56_code 15 = .ok (.ireturn, 1) := by decide +kernel
theorem d_jdk_42_56_16 : decode jdk_42_method_56_code 16 = .ok (.aload_n 0, 1) := by decide +kernel
theorem d_jdk_42_56_17 : decode jdk_42_method_56_code 17 = .ok (.getfield 9, 3) := by decide +kernel
theorem d_jdk_42_56_20 : decode jdk_42_method_56_code 20 = .ok (.iload_n 1, 1) := by decide +kernel
theorem d_jdk_42_56_21 : decode jdk_42_method_56_code 21 = .ok (.invokestatic 498, 3) := by decide +kernel
theorem d_jdk_42_56_24 : decode jdk_42_method_56_code 24 = .ok (.ireturn, 1) := by decide +kernel
theorem d_jdk_42_66_0 : decode jdk_42_method_66_code 0 = .ok (.aload_n 0, 1) := by decide +kernel
theorem d_jdk_42_66_1 : decode jdk_42_method_66_code 1 = .ok (.aload_n 1, 1) := by decide +kernel
theorem d_jdk_42_66_2 : decode jdk_42_method_66_code 2 = .ok (.if_acmp .ne 5, 3) := by decide +kernel
theorem d_jdk_42_66_5 : decode jdk_42_method_66_code 5 = .ok (.iconst 1, 1) := by decide +kernel
theorem d_jdk_42_66_6 : decode jdk_42_method_66_code 6 = .ok (.ireturn, 1) := by decide +kernel
theorem d_jdk_42_66_7 : decode jdk_42_method_66_code 7 = .ok (.aload_n 1, 1) := by decide +kernel
theorem d_jdk_42_66_8 : decode jdk_42_method_66_code 8 = .ok (.instanceof 10, 3) := by decide +kernel
theorem d_jdk_42_66_11 : decode jdk_42_method_66_code 11 = .ok (.ifCond .eq 43, 3) := by decide +kernel
theorem d_jdk_42_66_14 : decode jdk_42_method_66_code 14 = .ok (.aload_n 1, 1) := by decide +kernel
theorem d_jdk_42_66_15 : decode jdk_42_method_66_code 15 = .ok (.checkcast 10, 3) := by decide +kernel
theorem d_jdk_42_66_18 : decode jdk_42_method_66_code 18 = .ok (.astore_n 2, 1) := by decide +kernel
theorem d_jdk_42_66_19 : decode jdk_42_method_66_code 19 = .ok (.getstatic 38, 3) := by decide +kernel
theorem d_jdk_42_66_22 : decode jdk_42_method_66_code 22 = .ok (.ifCond .eq 14, 3) := by decide +kernel
theorem d_jdk_42_66_25 : decode jdk_42_method_66_code 25 = .ok (.aload_n 0, 1) := by decide +kernel
theorem d_jdk_42_66_26 : decode jdk_42_method_66_code 26 = .ok (.getfield 15, 3) := by decide +kernel
theorem d_jdk_42_66_29 : decode jdk_42_method_66_code 29 = .ok (.aload_n 2, 1) := by decide +kernel
theorem d_jdk_42_66_30 : decode jdk_42_method_66_code 30 = .ok (.getfield 15, 3) := by decide +kernel
theorem d_jdk_42_66_33 : decode jdk_42_method_66_code 33 = .ok (.if_icmp .ne 21, 3) := by decide +kernel
theorem d_jdk_42_66_36 : decode jdk_42_method_66_code 36 = .ok (.aload_n 0, 1) := by decide +kernel
theorem d_jdk_42_66_37 : decode jdk_42_method_66_code 37 = .ok (.getfield 9, 3) := by decide +kernel
theorem d_jdk_42_66_40 : decode jdk_42_method_66_code 40 = .ok (.aload_n 2, 1) := by decide +kernel
theorem d_jdk_42_66_41 : decode jdk_42_method_66_code 41 = .ok (.getfield 9, 3) := by decide +kernel
theorem d_jdk_42_66_44 : decode jdk_42_method_66_code 44 = .ok (.invokestatic 541, 3) := by decide +kernel
theorem d_jdk_42_66_47 : decode jdk_42_method_66_code 47 = .ok (.ifCond .eq 7, 3) := by decide +kernel
theorem d_jdk_42_66_50 : decode jdk_42_method_66_code 50 = .ok (.iconst 1, 1) := by decide +kernel
theorem d_jdk_42_66_51 : decode jdk_42_method_66_code 51 = .ok (.goto 4, 3) := by decide +kernel
theorem d_jdk_42_66_54 : decode jdk_42_method_66_code 54 = .ok (.iconst 0, 1) := by decide +kernel
theorem d_jdk_42_66_55 : decode jdk_42_method_66_code 55 = .ok (.ireturn, 1) := by decide +kernel
theorem d_jdk_42_92_0 : decode jdk_42_method_92_code 0 = .ok (.aload_n 0, 1) := by decide +kernel
theorem d_jdk_42_92_1 : decode jdk_42_method_92_code 1 = .ok (.invokevirtual 505, 3) := by decide +kernel
theorem d_jdk_42_92_4 : decode jdk_42_method_92_code 4 = .ok (.istore_n 3, 1) := by decide +kernel
theorem d_jdk_42_92_5 : decode jdk_42_method_92_code 5 = .ok (.iload_n 1, 1) := by decide +kernel
theorem d_jdk_42_92_6 : decode jdk_42_method_92_code 6 = .ok (.iload_n 2, 1) := by decide +kernel
theorem d_jdk_42_92_7 : decode jdk_42_method_92_code 7 = .ok (.iload_n 3, 1) := by decide +kernel
theorem d_jdk_42_92_8 : decode jdk_42_method_92_code 8 = .ok (.invokestatic 521, 3) := by decide +kernel
theorem d_jdk_42_92_11 : decode jdk_42_method_92_code 11 = .ok (.iload_n 1, 1) := by decide +kernel
theorem d_jdk_42_92_12 : decode jdk_42_method_92_code 12 = .ok (.ifCond .ne 10, 3) := by decide +kernel
theorem d_jdk_42_92_15 : decode jdk_42_method_92_code 15 = .ok (.iload_n 2, 1) := by decide +kernel
theorem d_jdk_42_92_16 : decode jdk_42_method_92_code 16 = .ok (.iload_n 3, 1) := by decide +kernel
theorem d_jdk_42_92_17 : decode jdk_42_method_92_code 17 = .ok (.if_icmp .ne 5, 3) := by decide +kernel
theorem d_jdk_42_92_22 : decode jdk_42_method_92_code 22 = .ok (.iload_n 2, 1) := by decide +kernel
theorem d_jdk_42_92_23 : decode jdk_42_method_92_code 23 = .ok (.iload_n 1, 1) := by decide +kernel
theorem d_jdk_42_92_24 : decode jdk_42_method_92_code 24 = .ok (.isub, 1) := by decide +kernel
theorem d_jdk_42_92_25 : decode jdk_42_method_92_code 25 = .ok (.istore 4, 2) := by decide +kernel
theorem d_jdk_42_92_27 : decode jdk_42_method_92_code 27 = .ok (.aload_n 0, 1) := by decide +kernel
theorem d_jdk_42_92_28 : decode jdk_42_method_92_code 28 = .ok (.invokevirtual 492, 3) := by decide +kernel
theorem d_jdk_42_92_31 : decode jdk_42_method_92_code 31 = .ok (.ifCond .eq 16, 3) := by decide +kernel
theorem d_jdk_42_92_34 : decode jdk_42_method_92_code 34 = .ok (.aload_n 0, 1) := by decide +kernel
theorem d_jdk_42_92_35 : decode jdk_42_method_92_code 35 = .ok (.getfield 9, 3) := by decide +kernel
theorem d_jdk_42_92_38 : decode jdk_42_method_92_code 38 = .ok (.iload_n 1, 1) := by decide +kernel
theorem d_jdk_42_92_39 : decode jdk_42_method_92_code 39 = .ok (.iload 4, 2) := by decide +kernel
theorem d_jdk_42_92_41 : decode jdk_42_method_92_code 41 = .ok (.invokestatic 685, 3) := by decide +kernel
theorem d_jdk_42_92_44 : decode jdk_42_method_92_code 44 = .ok (.goto 13, 3) := by decide +kernel
theorem d_jdk_42_92_47 : decode jdk_42_method_92_code 47 = .ok (.aload_n 0, 1) := by decide +kernel
theorem d_jdk_42_92_48 : decode jdk_42_method_92_code 48 = .ok (.getfield 9, 3) := by decide +kernel
theorem d_jdk_42_92_51 : decode jdk_42_method_92_code 51 = .ok (.iload_n 1, 1) := by decide +kernel
theorem d_jdk_42_92_52 : decode jdk_42_method_92_code 52 = .ok (.iload 4, 2) := by decide +kernel
theorem d_jdk_42_92_54 : decode jdk_42_method_92_code 54 = .ok (.invokestatic 689, 3) := by decide +kernel
theorem d_jdk_42_92_57 : decode jdk_42_method_92_code 57 = .ok (.areturn, 1) := by decide +kernel
theorem d_jdk_43_13_0 : decode jdk_43_method_13_code 0 = .ok (.aload_n 0, 1) := by decide +kernel
theorem d_jdk_43_13_1 : decode jdk_43_method_13_code 1 = .ok (.arraylength, 1) := by decide +kernel
theorem d_jdk_43_13_2 : decode jdk_43_method_13_code 2 = .ok (.aload_n 1, 1) := by decide +kernel
theorem d_jdk_43_13_3 : decode jdk_43_method_13_code 3 = .ok (.arraylength, 1) := by decide +kernel
theorem d_jdk_43_13_4 : decode jdk_43_method_13_code 4 = .ok (.if_icmp .ne 30, 3) := by decide +kernel
theorem d_jdk_43_13_7 : decode jdk_43_method_13_code 7 = .ok (.iconst 0, 1) := by decide +kernel
theorem d_jdk_43_13_8 : decode jdk_43_method_13_code 8 = .ok (.istore_n 2, 1) := by decide +kernel
theorem d_jdk_43_13_9 : decode jdk_43_method_13_code 9 = .ok (.iload_n 2, 1) := by decide +kernel
theorem d_jdk_43_13_10 : decode jdk_43_method_13_code 10 = .ok (.aload_n 0, 1) := by decide +kernel
theorem d_jdk_43_13_11 : decode jdk_43_method_13_code 11 = .ok (.arraylength, 1) := by decide +kernel
theorem d_jdk_43_13_12 : decode jdk_43_method_13_code 12 = .ok (.if_icmp .ge 20, 3) := by decide +kernel
theorem d_jdk_43_13_15 : decode jdk_43_method_13_code 15 = .ok (.aload_n 0, 1) := by decide +kernel
theorem d_jdk_43_13_16 : decode jdk_43_method_13_code 16 = .ok (.iload_n 2, 1) := by decide +kernel
theorem d_jdk_43_13_17 : decode jdk_43_method_13_code 17 = .ok (.baload, 1) := by decide +kernel
theorem d_jdk_43_13_18 : decode jdk_43_method_13_code 18 = .ok (.aload_n 1, 1) := by decide +kernel
theorem d_jdk_43_13_19 : decode jdk_43_method_13_code 19 = .ok (.iload_n 2, 1) := by decide +kernel
theorem d_jdk_43_13_20 : decode jdk_43_method_13_code 20 = .ok (.baload, 1) := by decide +kernel
theorem d_jdk_43_13_21 : decode jdk_43_method_13_code 21 = .ok (.if_icmp .eq 5, 3) := by decide +kernel
theorem d_jdk_43_13_24 : decode jdk_43_method_13_code 24 = .ok (.iconst 0, 1) := by decide +kernel
theorem d_jdk_43_13_25 : decode jdk_43_method_13_code 25 = .ok (.ireturn, 1) := by decide +kernel
theorem d_jdk_43_13_26 : decode jdk_43_method_13_code 26 = .ok (.iinc 2 1, 3) := by decide +kernel
theorem d_jdk_43_13_29 : decode jdk_43_method_13_code 29 = .ok (.goto (-20), 3) := by decide +kernel
theorem d_jdk_43_13_32 : decode jdk_43_method_13_code 32 = .ok (.iconst 1, 1) := by decide +kernel
theorem d_jdk_43_13_33 : decode jdk_43_method_13_code 33 = .ok (.ireturn, 1) := by decide +kernel
theorem d_jdk_43_13_34 : decode jdk_43_method_13_code 34 = .ok (.iconst 0, 1) := by decide +kernel
theorem d_jdk_43_13_35 : decode jdk_43_method_13_code 35 = .ok (.ireturn, 1) := by decide +kernel
theorem d_jdk_43_2_0 : decode jdk_43_method_2_code 0 = .ok (.iload_n 1, 1) := by decide +kernel
theorem d_jdk_43_2_1 : decode jdk_43_method_2_code 1 = .ok (.aload_n 0, 1) := by decide +kernel
theorem d_jdk_43_2_2 : decode jdk_43_method_2_code 2 = .ok (.arraylength, 1) := by decide +kernel
theorem d_jdk_43_2_3 : decode jdk_43_method_2_code 3 = .ok (.invokestatic 9, 3) := by decide +kernel
theorem d_jdk_43_2_6 : decode jdk_43_method_2_code 6 = .ok (.aload_n 0, 1) := by decide +kernel
theorem d_jdk_43_2_7 : decode jdk_43_method_2_code 7 = .ok (.iload_n 1, 1) := by decide +kernel
theorem d_jdk_43_2_8 : decode jdk_43_method_2_code 8 = .ok (.baload, 1) := by decide +kernel
theorem d_jdk_43_2_9 : decode jdk_43_method_2_code 9 = .ok (.sipush 255, 3) := by decide +kernel
theorem d_jdk_43_2_12 : decode jdk_43_method_2_code 12 = .ok (.iand, 1) := by decide +kernel
theorem d_jdk_43_2_13 : decode jdk_43_method_2_code 13 = .ok (.i2c, 1) := by decide +kernel
theorem d_jdk_43_2_14 : decode jdk_43_method_2_code 14 = .ok (.ireturn, 1) := by decide +kernel
theorem d_jdk_43_47_0 : decode jdk_43_method_47_code 0 = .ok (.iload_n 2, 1) := by decide +kernel
theorem d_jdk_43_47_1 : decode jdk_43_method_47_code 1 = .ok (.ifCond .ne 6, 3) := by decide +kernel
theorem d_jdk_43_47_7 : decode jdk_43_method_47_code 7 = .ok (.new 1, 3) := by decide +kernel
theorem d_jdk_43_47_10 : decode jdk_43_method_47_code 10 = .ok (.dup, 1) := by decide +kernel
theorem d_jdk_43_47_11 : decode jdk_43_method_47_code 11 = .ok (.aload_n 0, 1) := by decide +kernel
theorem d_jdk_43_47_12 : decode jdk_43_method_47_code 12 = .ok (.iload_n 1, 1) := by decide +kernel
theorem d_jdk_43_47_13 : decode jdk_43_method_47_code 13 = .ok (.iload_n 1, 1) := by decide +kernel
theorem d_jdk_43_47_14 : decode jdk_43_method_47_code 14 = .ok (.iload_n 2, 1) := by decide +kernel
theorem d_jdk_43_47_15 : decode jdk_43_method_47_code 15 = .ok (.iadd, 1) := by decide +kernel
theorem d_jdk_43_47_16 : decode jdk_43_method_47_code 16 = .ok (.invokestatic 232, 3) := by decide +kernel
theorem d_jdk_43_47_19 : decode jdk_43_method_47_code 19 = .ok (.iconst 0, 1) := by decide +kernel
theorem d_jdk_43_47_20 : decode jdk_43_method_47_code 20 = .ok (.invokespecial 112, 3) := by decide +kernel
theorem d_jdk_43_47_23 : decode jdk_43_method_47_code 23 = .ok (.areturn, 1) := by decide +kernel
theorem d_jdk_52_14_0 : decode jdk_52_method_14_code 0 = .ok (.iload_n 2, 1) := by decide +kernel
theorem d_jdk_52_14_1 : decode jdk_52_method_14_code 1 = .ok (.invokestatic 107, 3) := by decide +kernel
theorem d_jdk_52_14_4 : decode jdk_52_method_14_code 4 = .ok (.astore_n 3, 1) := by decide +kernel
theorem d_jdk_52_14_5 : decode jdk_52_method_14_code 5 = .ok (.iconst 0, 1) := by decide +kernel
theorem d_jdk_52_14_6 : decode jdk_52_method_14_code 6 = .ok (.istore 4, 2) := by decide +kernel
theorem d_jdk_52_14_8 : decode jdk_52_method_14_code 8 = .ok (.iload 4, 2) := by decide +kernel
theorem d_jdk_52_14_10 : decode jdk_52_method_14_code 10 = .ok (.iload_n 2, 1) := by decide +kernel
theorem d_jdk_52_14_11 : decode jdk_52_method_14_code 11 = .ok (.if_icmp .ge 21, 3) := by decide +kernel
theorem d_jdk_52_14_14 : decode jdk_52_method_14_code 14 = .ok (.aload_n 3, 1) := by decide +kernel
theorem d_jdk_52_14_15 : decode jdk_52_method_14_code 15 = .ok (.iload 4, 2) := by decide +kernel
theorem d_jdk_52_14_17 : decode jdk_52_method_14_code 17 = .ok (.aload_n 0, 1) := by decide +kernel
theorem d_jdk_52_14_18 : decode jdk_52_method_14_code 18 = .ok (.iload_n 1, 1) := by decide +kernel
theorem d_jdk_52_14_19 : decode jdk_52_method_14_code 19 = .ok (.caload, 1) := by decide +kernel
theorem d_jdk_52_14_20 : decode jdk_52_method_14_code 20 = .ok (.invokestatic 111, 3) := by decide +kernel
theorem d_jdk_52_14_23 : decode jdk_52_method_14_code 23 = .ok (.iinc 1 1, 3) := by decide +kernel
theorem d_jdk_52_14_26 : decode jdk_52_method_14_code 26 = .ok (.iinc 4 1, 3) := by decide +kernel
theorem d_jdk_52_14_29 : decode jdk_52_method_14_code 29 = .ok (.goto (-21), 3) := by decide +kernel
theorem d_jdk_52_14_32 : decode jdk_52_method_14_code 32 = .ok (.aload_n 3, 1) := by decide +kernel
theorem d_jdk_52_14_33 : decode jdk_52_method_14_code 33 = .ok (.areturn, 1) := by decide +kernel
theorem d_jdk_52_15_0 : decode jdk_52_method_15_code 0 = .ok (.iload_n 1, 1) := by decide +kernel
theorem d_jdk_52_15_1 : decode jdk_52_method_15_code 1 = .ok (.aload_n 0, 1) := by decide +kernel
theorem d_jdk_52_15_2 : decode jdk_52_method_15_code 2 = .ok (.arraylength, 1) := by decide +kernel
theorem d_jdk_52_15_3 : decode jdk_52_method_15_code 3 = .ok (.isub, 1) := by decide +kernel
theorem d_jdk_52_15_4 : decode jdk_52_method_15_code 4 = .ok (.bipush 31, 2) := by decide +kernel
theorem d_jdk_52_15_6 : decode jdk_52_method_15_code 6 = .ok (.iushr, 1) := by decide +kernel
theorem d_jdk_52_15_7 : decode jdk_52_method_15_code 7 = .ok (.i2b, 1) := by decide +kernel
theorem d_jdk_52_15_8 : decode jdk_52_method_15_code 8 = .ok (.ireturn, 1) := by decide +kernel
theorem d_jdk_52_16_0 : decode jdk_52_method_16_code 0 = .ok (.iload_n 2, 1) := by decide +kernel
theorem d_jdk_52_16_1 : decode jdk_52_method_16_code 1 = .ok (.newarray .byte, 2) := by decide +kernel
theorem d_jdk_52_16_3 : decode jdk_52_method_16_code 3 = .ok (.astore_n 3, 1) := by decide +kernel
theorem d_jdk_52_16_4 : decode jdk_52_method_16_code 4 = .ok (.aload_n 0, 1) := by decide +kernel
theorem d_jdk_52_16_5 : decode jdk_52_method_16_code 5 = .ok (.iload_n 1, 1) := by decide +kernel
theorem d_jdk_52_16_6 : decode jdk_52_method_16_code 6 = .ok (.aload_n 3, 1) := by decide +kernel
theorem d_jdk_52_16_7 : decode jdk_52_method_16_code 7 = .ok (.iconst 0, 1) := by decide +kernel
theorem d_jdk_52_16_8 : decode jdk_52_method_16_code 8 = .ok (.iload_n 2, 1) := by decide +kernel
theorem d_jdk_52_16_9 : decode jdk_52_method_16_code 9 = .ok (.invokestatic 115, 3) := by decide +kernel
theorem d_jdk_52_16_12 : decode jdk_52_method_16_code 12 = .ok (.istore 4, 2) := by decide +kernel
theorem d_jdk_52_16_14 : decode jdk_52_method_16_code 14 = .ok (.iload 4, 2) := by decide +kernel
theorem d_jdk_52_16_16 : decode jdk_52_method_16_code 16 = .ok (.iload_n 2, 1) := by decide +kernel
theorem d_jdk_52_16_17 : decode jdk_52_method_16_code 17 = .ok (.if_icmp .eq 40, 3) := by decide +kernel
theorem d_jdk_52_16_20 : decode jdk_52_method_16_code 20 = .ok (.aload_n 0, 1) := by decide +kernel
theorem d_jdk_52_16_21 : decode jdk_52_method_16_code 21 = .ok (.iload_n 1, 1) := by decide +kernel
theorem d_jdk_52_16_22 : decode jdk_52_method_16_code 22 = .ok (.iload_n 2, 1) := by decide +kernel
theorem d_jdk_52_16_23 : decode jdk_52_method_16_code 23 = .ok (.invokestatic 119, 3) := by decide +kernel
theorem d_jdk_52_16_26 : decode jdk_52_method_16_code 26 = .ok (.astore 5, 2) := by decide +kernel
theorem d_jdk_52_16_28 : decode jdk_52_method_16_code 28 = .ok (.aload 5, 2) := by decide +kernel
theorem d_jdk_52_16_30 : decode jdk_52_method_16_code 30 = .ok (.iload 4, 2) := by decide +kernel
theorem d_jdk_52_16_32 : decode jdk_52_method_16_code 32 = .ok (.invokestatic 71, 3) := by decide +kernel
theorem d_jdk_52_16_35 : decode jdk_52_method_16_code 35 = .ok (.sipush 255, 3) := by decide +kernel
theorem d_jdk_52_16_38 : decode jdk_52_method_16_code 38 = .ok (.if_icmp .gt 16, 3) := by decide +kernel
theorem d_jdk_52_16_54 : decode jdk_52_method_16_code 54 = .ok (.aload 5, 2) := by decide +kernel
theorem d_jdk_52_16_56 : decode jdk_52_method_16_code 56 = .ok (.areturn, 1) := by decide +kernel
theorem d_jdk_52_16_57 : decode jdk_52_method_16_code 57 = .ok (.aload_n 3, 1) := by decide +kernel
theorem d_jdk_52_16_58 : decode jdk_52_method_16_code 58 = .ok (.areturn, 1) := by decide +kernel
theorem d_jdk_52_17_0 : decode jdk_52_method_17_code 0 = .ok (.iload_n 2, 1) := by decide +kernel
theorem d_jdk_52_17_1 : decode jdk_52_method_17_code 1 = .ok (.newarray .byte, 2) := by decide +kernel
theorem d_jdk_52_17_3 : decode jdk_52_method_17_code 3 = .ok (.astore_n 3, 1) := by decide +kernel
theorem d_jdk_52_17_4 : decode jdk_52_method_17_code 4 = .ok (.aload_n 0, 1) := by decide +kernel
theorem d_jdk_52_17_5 : decode jdk_52_method_17_code 5 = .ok (.iload_n 1, 1) := by decide +kernel
theorem d_jdk_52_17_6 : decode jdk_52_method_17_code 6 = .ok (.aload_n 3, 1) := by decide +kernel
theorem d_jdk_52_17_7 : decode jdk_52_method_17_code 7 = .ok (.iconst 0, 1) := by decide +kernel
theorem d_jdk_52_17_8 : decode jdk_52_method_17_code 8 = .ok (.iload_n 2, 1) := by decide +kernel
theorem d_jdk_52_17_9 : decode jdk_52_method_17_code 9 = .ok (.invokestatic 123, 3) := by decide +kernel
theorem d_jdk_52_17_12 : decode jdk_52_method_17_code 12 = .ok (.istore 4, 2) := by decide +kernel
theorem d_jdk_52_17_14 : decode jdk_52_method_17_code 14 = .ok (.iload 4, 2) := by decide +kernel
theorem d_jdk_52_17_16 : decode jdk_52_method_17_code 16 = .ok (.iload_n 2, 1) := by decide +kernel
theorem d_jdk_52_17_17 : decode jdk_52_method_17_code 17 = .ok (.if_icmp .eq 47, 3) := by decide +kernel
theorem d_jdk_52_17_20 : decode jdk_52_method_17_code 20 = .ok (.aload_n 0, 1) := by decide +kernel
theorem d_jdk_52_17_21 : decode jdk_52_method_17_code 21 = .ok (.iload_n 1, 1) := by decide +kernel
theorem d_jdk_52_17_22 : decode jdk_52_method_17_code 22 = .ok (.iconst 1, 1) := by decide +kernel
theorem d_jdk_52_17_23 : decode jdk_52_method_17_code 23 = .ok (.ishl, 1) := by decide +kernel
theorem d_jdk_52_17_24 : decode jdk_52_method_17_code 24 = .ok (.iload_n 1, 1) := by decide +kernel
theorem d_jdk_52_17_25 : decode jdk_52_method_17_code 25 = .ok (.iload_n 2, 1) := by decide +kernel
theorem d_jdk_52_17_26 : decode jdk_52_method_17_code 26 = .ok (.iadd, 1) := by decide +kernel
theorem d_jdk_52_17_27 : decode jdk_52_method_17_code 27 = .ok (.invokestatic 11, 3) := by decide +kernel
theorem d_jdk_52_17_30 : decode jdk_52_method_17_code 30 = .ok (.invokestatic 126, 3) := by decide +kernel
theorem d_jdk_52_17_33 : decode jdk_52_method_17_code 33 = .ok (.astore 5, 2) := by decide +kernel
theorem d_jdk_52_17_35 : decode jdk_52_method_17_code 35 = .ok (.aload 5, 2) := by decide +kernel
theorem d_jdk_52_17_37 : decode jdk_52_method_17_code 37 = .ok (.iload 4, 2) := by decide +kernel
theorem d_jdk_52_17_39 : decode jdk_52_method_17_code 39 = .ok (.invokestatic 71, 3) := by decide +kernel
theorem d_jdk_52_17_42 : decode jdk_52_method_17_code 42 = .ok (.sipush 255, 3) := by decide +kernel
theorem d_jdk_52_17_45 : decode jdk_52_method_17_code 45 = .ok (.if_icmp .gt 16, 3) := by decide +kernel
theorem d_jdk_52_17_61 : decode jdk_52_method_17_code 61 = .ok (.aload 5, 2) := by decide +kernel
theorem d_jdk_52_17_63 : decode jdk_52_method_17_code 63 = .ok (.areturn, 1) := by decide +kernel
theorem d_jdk_52_17_64 : decode jdk_52_method_17_code 64 = .ok (.aload_n 3, 1) := by decide +kernel
theorem d_jdk_52_17_65 : decode jdk_52_method_17_code 65 = .ok (.areturn, 1) := by decide +kernel
theorem d_jdk_52_21_0 : decode jdk_52_method_21_code 0 = .ok (.iconst 0, 1) := by decide +kernel
theorem d_jdk_52_21_1 : decode jdk_52_method_21_code 1 = .ok (.istore 5, 2) := by decide +kernel
theorem d_jdk_52_21_3 : decode jdk_52_method_21_code 3 = .ok (.iload 5, 2) := by decide +kernel
theorem d_jdk_52_21_5 : decode jdk_52_method_21_code 5 = .ok (.iload 4, 2) := by decide +kernel
theorem d_jdk_52_21_7 : decode jdk_52_method_21_code 7 = .ok (.if_icmp .ge 37, 3) := by decide +kernel
theorem d_jdk_52_21_10 : decode jdk_52_method_21_code 10 = .ok (.aload_n 0, 1) := by decide +kernel
theorem d_jdk_52_21_11 : decode jdk_52_method_21_code 11 = .ok (.iload_n 1, 1) := by decide +kernel
theorem d_jdk_52_21_12 : decode jdk_52_method_21_code 12 = .ok (.caload, 1) := by decide +kernel
theorem d_jdk_52_21_13 : decode jdk_52_method_21_code 13 = .ok (.istore 6, 2) := by decide +kernel
theorem d_jdk_52_21_15 : decode jdk_52_method_21_code 15 = .ok (.iload 6, 2) := by decide +kernel
theorem d_jdk_52_21_17 : decode jdk_52_method_21_code 17 = .ok (.sipush 255, 3) := by decide +kernel
theorem d_jdk_52_21_20 : decode jdk_52_method_21_code 20 = .ok (.if_icmp .le 6, 3) := by decide +kernel
theorem d_jdk_52_21_23 : decode jdk_52_method_21_code 23 = .ok (.iload 5, 2) := by decide +kernel
theorem d_jdk_52_21_25 : decode jdk_52_method_21_code 25 = .ok (.ireturn, 1) := by decide +kernel
theorem d_jdk_52_21_26 : decode jdk_52_method_21_code 26 = .ok (.aload_n 2, 1) := by decide +kernel
theorem d_jdk_52_21_27 : decode jdk_52_method_21_code 27 = .ok (.iload_n 3, 1) := by decide +kernel
theorem d_jdk_52_21_28 : decode jdk_52_method_21_code 28 = .ok (.iload 6, 2) := by decide +kernel
theorem d_jdk_52_21_30 : decode jdk_52_method_21_code 30 = .ok (.i2b, 1) := by decide +kernel
theorem d_jdk_52_21_31 : decode jdk_52_method_21_code 31 = .ok (.bastore, 1) := by decide +kernel
theorem d_jdk_52_21_32 : decode jdk_52_method_21_code 32 = .ok (.iinc 1 1, 3) := by decide +kernel
theorem d_jdk_52_21_35 : decode jdk_52_method_21_code 35 = .ok (.iinc 3 1, 3) := by decide +kernel
theorem d_jdk_52_21_38 : decode jdk_52_method_21_code 38 = .ok (.iinc 5 1, 3) := by decide +kernel
theorem d_jdk_52_21_41 : decode jdk_52_method_21_code 41 = .ok (.goto (-38), 3) := by decide +kernel
theorem d_jdk_52_21_44 : decode jdk_52_method_21_code 44 = .ok (.iload 4, 2) := by decide +kernel
theorem d_jdk_52_21_46 : decode jdk_52_method_21_code 46 = .ok (.ireturn, 1) := by decide +kernel
theorem d_jdk_52_22_0 : decode jdk_52_method_22_code 0 = .ok (.iload_n 1, 1) := by decide +kernel
theorem d_jdk_52_22_1 : decode jdk_52_method_22_code 1 = .ok (.iload 4, 2) := by decide +kernel
theorem d_jdk_52_22_3 : decode jdk_52_method_22_code 3 = .ok (.aload_n 0, 1) := by decide +kernel
theorem d_jdk_52_22_4 : decode jdk_52_method_22_code 4 = .ok (.invokestatic 173, 3) := by decide +kernel
theorem d_jdk_52_22_7 : decode jdk_52_method_22_code 7 = .ok (.iconst 0, 1) := by decide +kernel
theorem d_jdk_52_22_8 : decode jdk_52_method_22_code 8 = .ok (.istore 5, 2) := by decide +kernel
theorem d_jdk_52_22_10 : decode jdk_52_method_22_code 10 = .ok (.iload 5, 2) := by decide +kernel
theorem d_jdk_52_22_12 : decode jdk_52_method_22_code 12 = .ok (.iload 4, 2) := by decide +kernel
theorem d_jdk_52_22_14 : decode jdk_52_method_22_code 14 = .ok (.if_icmp .ge 39, 3) := by decide +kernel
theorem d_jdk_52_22_17 : decode jdk_52_method_22_code 17 = .ok (.aload_n 0, 1) := by decide +kernel
theorem d_jdk_52_22_18 : decode jdk_52_method_22_code 18 = .ok (.iload_n 1, 1) := by decide +kernel
theorem d_jdk_52_22_19 : decode jdk_52_method_22_code 19 = .ok (.invokestatic 71, 3) := by decide +kernel
theorem d_jdk_52_22_22 : decode jdk_52_method_22_code 22 = .ok (.istore 6, 2) := by decide +kernel
theorem d_jdk_52_22_24 : decode jdk_52_method_22_code 24 = .ok (.iload 6, 2) := by decide +kernel
theorem d_jdk_52_22_26 : decode jdk_52_method_22_code 26 = .ok (.sipush 255, 3) := by decide +kernel
theorem d_jdk_52_22_29 : decode jdk_52_method_22_code 29 = .ok (.if_icmp .le 6, 3) := by decide +kernel
theorem d_jdk_52_22_32 : decode jdk_52_method_22_code 32 = .ok (.iload 5, 2) := by decide +kernel
theorem d_jdk_52_22_34 : decode jdk_52_method_22_code 34 = .ok (.ireturn, 1) := by decide +kernel
theorem d_jdk_52_22_35 : decode jdk_52_method_22_code 35 = .ok (.aload_n 2, 1) := by decide +kernel
theorem d_jdk_52_22_36 : decode jdk_52_method_22_code 36 = .ok (.iload_n 3, 1) := by decide +kernel
theorem d_jdk_52_22_37 : decode jdk_52_method_22_code 37 = .ok (.iload 6, 2) := by decide +kernel
theorem d_jdk_52_22_39 : decode jdk_52_method_22_code 39 = .ok (.i2b, 1) := by decide +kernel
theorem d_jdk_52_22_40 : decode jdk_52_method_22_code 40 = .ok (.bastore, 1) := by decide +kernel
theorem d_jdk_52_22_41 : decode jdk_52_method_22_code 41 = .ok (.iinc 1 1, 3) := by decide +kernel
theorem d_jdk_52_22_44 : decode jdk_52_method_22_code 44 = .ok (.iinc 3 1, 3) := by decide +kernel
theorem d_jdk_52_22_47 : decode jdk_52_method_22_code 47 = .ok (.iinc 5 1, 3) := by decide +kernel
theorem d_jdk_52_22_50 : decode jdk_52_method_22_code 50 = .ok (.goto (-40), 3) := by decide +kernel
theorem d_jdk_52_22_53 : decode jdk_52_method_22_code 53 = .ok (.iload 4, 2) := by decide +kernel
theorem d_jdk_52_22_55 : decode jdk_52_method_22_code 55 = .ok (.ireturn, 1) := by decide +kernel
theorem d_jdk_52_2_0 : decode jdk_52_method_2_code 0 = .ok (.iload_n 0, 1) := by decide +kernel
theorem d_jdk_52_2_1 : decode jdk_52_method_2_code 1 = .ok (.invokestatic 11, 3) := by decide +kernel
theorem d_jdk_52_2_4 : decode jdk_52_method_2_code 4 = .ok (.newarray .byte, 2) := by decide +kernel
theorem d_jdk_52_2_6 : decode jdk_52_method_2_code 6 = .ok (.areturn, 1) := by decide +kernel
theorem d_jdk_52_3_0 : decode jdk_52_method_3_code 0 = .ok (.iload_n 0, 1) := by decide +kernel
theorem d_jdk_52_3_1 : decode jdk_52_method_3_code 1 = .ok (.ifCond .ge 11, 3) := by decide +kernel
theorem d_jdk_52_3_12 : decode jdk_52_method_3_code 12 = .ok (.iload_n 0, 1) := by decide +kernel
theorem d_jdk_52_3_13 : decode jdk_52_method_3_code 13 = .ok (.ldc 20, 2) := by decide +kernel
theorem d_jdk_52_3_15 : decode jdk_52_method_3_code 15 = .ok (.if_icmp .lt 40, 3) := by decide +kernel
theorem d_jdk_52_3_55 : decode jdk_52_method_3_code 55 = .ok (.iload_n 0, 1) := by decide +kernel
theorem d_jdk_52_3_56 : decode jdk_52_method_3_code 56 = .ok (.iconst 1, 1) := by decide +kernel
theorem d_jdk_52_3_57 : decode jdk_52_method_3_code 57 = .ok (.ishl, 1) := by decide +kernel
theorem d_jdk_52_3_58 : decode jdk_52_method_3_code 58 = .ok (.ireturn, 1) := by decide +kernel
theorem d_jdk_52_4_0 : decode jdk_52_method_4_code 0 = .ok (.getstatic 44, 3) := by decide +kernel
theorem d_jdk_52_4_3 : decode jdk_52_method_4_code 3 = .ok (.ifCond .ne 25, 3) := by decide +kernel
theorem d_jdk_52_4_28 : decode jdk_52_method_4_code 28 = .ok (.iload_n 1, 1) := by decide +kernel
theorem d_jdk_52_4_29 : decode jdk_52_method_4_code 29 = .ok (.iconst 1, 1) := by decide +kernel
theorem d_jdk_52_4_30 : decode jdk_52_method_4_code 30 = .ok (.ishl, 1) := by decide +kernel
theorem d_jdk_52_4_31 : decode jdk_52_method_4_code 31 = .ok (.istore_n 1, 1) := by decide +kernel
theorem d_jdk_52_4_32 : decode jdk_52_method_4_code 32 = .ok (.aload_n 0, 1) := by decide +kernel
theorem d_jdk_52_4_33 : decode jdk_52_method_4_code 33 = .ok (.iload_n 1, 1) := by decide +kernel
theorem d_jdk_52_4_34 : decode jdk_52_method_4_code 34 = .ok (.iinc 1 1, 3) := by decide +kernel
theorem d_jdk_52_4_37 : decode jdk_52_method_4_code 37 = .ok (.iload_n 2, 1) := by decide +kernel
theorem d_jdk_52_4_38 : decode jdk_52_method_4_code 38 = .ok (.getstatic 59, 3) := by decide +kernel
theorem d_jdk_52_4_41 : decode jdk_52_method_4_code 41 = .ok (.ishr, 1) := by decide +kernel
theorem d_jdk_52_4_42 : decode jdk_52_method_4_code 42 = .ok (.i2b, 1) := by decide +kernel
theorem d_jdk_52_4_43 : decode jdk_52_method_4_code 43 = .ok (.bastore, 1) := by decide +kernel
theorem d_jdk_52_4_44 : decode jdk_52_method_4_code 44 = .ok (.aload_n 0, 1) := by decide +kernel
theorem d_jdk_52_4_45 : decode jdk_52_method_4_code 45 = .ok (.iload_n 1, 1) := by decide +kernel
theorem d_jdk_52_4_46 : decode jdk_52_method_4_code 46 = .ok (.iload_n 2, 1) := by decide +kernel
theorem d_jdk_52_4_47 : decode jdk_52_method_4_code 47 = .ok (.getstatic 63, 3) := by decide +kernel
theorem d_jdk_52_4_50 : decode jdk_52_method_4_code 50 = .ok (.ishr, 1) := by decide +kernel
theorem d_jdk_52_4_51 : decode jdk_52_method_4_code 51 = .ok (.i2b, 1) := by decide +kernel
theorem d_jdk_52_4_52 : decode jdk_52_method_4_code 52 = .ok (.bastore, 1) := by decide +kernel
theorem d_jdk_52_4_53 : decode jdk_52_method_4_code 53 = .ok (.return_, 1) := by decide +kernel
theorem d_jdk_52_5_0 : decode jdk_52_method_5_code 0 = .ok (.getstatic 44, 3) := by decide +kernel
theorem d_jdk_52_5_3 : decode jdk_52_method_5_code 3 = .ok (.ifCond .ne 25, 3) := by decide +kernel
theorem d_jdk_52_5_28 : decode jdk_52_method_5_code 28 = .ok (.iload_n 1, 1) := by decide +kernel
theorem d_jdk_52_5_29 : decode jdk_52_method_5_code 29 = .ok (.iconst 1, 1) := by decide +kernel
theorem d_jdk_52_5_30 : decode jdk_52_method_5_code 30 = .ok (.ishl, 1) := by decide +kernel
theorem d_jdk_52_5_31 : decode jdk_52_method_5_code 31 = .ok (.istore_n 1, 1) := by decide +kernel
theorem d_jdk_52_5_32 : decode jdk_52_method_5_code 32 = .ok (.aload_n 0, 1) := by decide +kernel
theorem d_jdk_52_5_33 : decode jdk_52_method_5_code 33 = .ok (.iload_n 1, 1) := by decide +kernel
theorem d_jdk_52_5_34 : decode jdk_52_method_5_code 34 = .ok (.iinc 1 1, 3) := by decide +kernel
theorem d_jdk_52_5_37 : decode jdk_52_method_5_code 37 = .ok (.baload, 1) := by decide +kernel
theorem d_jdk_52_5_38 : decode jdk_52_method_5_code 38 = .ok (.sipush 255, 3) := by decide +kernel
theorem d_jdk_52_5_41 : decode jdk_52_method_5_code 41 = .ok (.iand, 1) := by decide +kernel
theorem d_jdk_52_5_42 : decode jdk_52_method_5_code 42 = .ok (.getstatic 59, 3) := by decide +kernel
theorem d_jdk_52_5_45 : decode jdk_52_method_5_code 45 = .ok (.ishl, 1) := by decide +kernel
theorem d_jdk_52_5_46 : decode jdk_52_method_5_code 46 = .ok (.aload_n 0, 1) := by decide +kernel
theorem d_jdk_52_5_47 : decode jdk_52_method_5_code 47 = .ok (.iload_n 1, 1) := by decide +kernel
theorem d_jdk_52_5_48 : decode jdk_52_method_5_code 48 = .ok (.baload, 1) := by decide +kernel
theorem d_jdk_52_5_49 : decode jdk_52_method_5_code 49 = .ok (.sipush 255, 3) := by decide +kernel
theorem d_jdk_52_5_52 : decode jdk_52_method_5_code 52 = .ok (.iand, 1) := by decide +kernel
theorem d_jdk_52_5_53 : decode jdk_52_method_5_code 53 = .ok (.getstatic 63, 3) := by decide +kernel
theorem d_jdk_52_5_56 : decode jdk_52_method_5_code 56 = .ok (.ishl, 1) := by decide +kernel
theorem d_jdk_52_5_57 : decode jdk_52_method_5_code 57 = .ok (.ior, 1) := by decide +kernel
theorem d_jdk_52_5_58 : decode jdk_52_method_5_code 58 = .ok (.i2c, 1) := by decide +kernel
theorem d_jdk_52_5_59 : decode jdk_52_method_5_code 59 = .ok (.ireturn, 1) := by decide +kernel
theorem d_jdk_52_69_0 : decode jdk_52_method_69_code 0 = .ok (.iload_n 2, 1) := by decide +kernel
theorem d_jdk_52_69_1 : decode jdk_52_method_69_code 1 = .ok (.ifCond .ne 7, 3) := by decide +kernel
theorem d_jdk_52_69_8 : decode jdk_52_method_69_code 8 = .ok (.getstatic 251, 3) := by decide +kernel
theorem d_jdk_52_69_11 : decode jdk_52_method_69_code 11 = .ok (.ifCond .eq 28, 3) := by decide +kernel
theorem d_jdk_52_69_14 : decode jdk_52_method_69_code 14 = .ok (.aload_n 0, 1) := by decide +kernel
theorem d_jdk_52_69_15 : decode jdk_52_method_69_code 15 = .ok (.iload_n 1, 1) := by decide +kernel
theorem d_jdk_52_69_16 : decode jdk_52_method_69_code 16 = .ok (.iload_n 2, 1) := by decide +kernel
theorem d_jdk_52_69_17 : decode jdk_52_method_69_code 17 = .ok (.invokestatic 257, 3) := by decide +kernel
theorem d_jdk_52_69_20 : decode jdk_52_method_69_code 20 = .ok (.astore_n 3, 1) := by decide +kernel
theorem d_jdk_52_69_21 : decode jdk_52_method_69_code 21 = .ok (.aload_n 3, 1) := by decide +kernel
theorem d_jdk_52_69_22 : decode jdk_52_method_69_code 22 = .ok (.iload_n 2, 1) := by decide +kernel
theorem d_jdk_52_69_23 : decode jdk_52_method_69_code 23 = .ok (.invokestatic 259, 3) := by decide +kernel
theorem d_jdk_52_69_26 : decode jdk_52_method_69_code 26 = .ok (.istore 4, 2) := by decide +kernel
theorem d_jdk_52_69_28 : decode jdk_52_method_69_code 28 = .ok (.new 3, 3) := by decide +kernel
theorem d_jdk_52_69_31 : decode jdk_52_method_69_code 31 = .ok (.dup, 1) := by decide +kernel
theorem d_jdk_52_69_32 : decode jdk_52_method_69_code 32 = .ok (.aload_n 3, 1) := by decide +kernel
theorem d_jdk_52_69_33 : decode jdk_52_method_69_code 33 = .ok (.iload 4, 2) := by decide +kernel
theorem d_jdk_52_69_35 : decode jdk_52_method_69_code 35 = .ok (.invokespecial 263, 3) := by decide +kernel
theorem d_jdk_52_69_38 : decode jdk_52_method_69_code 38 = .ok (.areturn, 1) := by decide +kernel
theorem d_jdk_52_6_0 : decode jdk_52_method_6_code 0 = .ok (.aload_n 0, 1) := by decide +kernel
theorem d_jdk_52_6_1 : decode jdk_52_method_6_code 1 = .ok (.arraylength, 1) := by decide +kernel
theorem d_jdk_52_6_2 : decode jdk_52_method_6_code 2 = .ok (.iconst 1, 1) := by decide +kernel
theorem d_jdk_52_6_3 : decode jdk_52_method_6_code 3 = .ok (.ishr, 1) := by decide +kernel
theorem d_jdk_52_6_4 : decode jdk_52_method_6_code 4 = .ok (.ireturn, 1) := by decide +kernel
theorem d_jdk_52_83_0 : decode jdk_52_method_83_code 0 = .ok (.iload_n 1, 1) := by decide +kernel
theorem d_jdk_52_83_1 : decode jdk_52_method_83_code 1 = .ok (.aload_n 0, 1) := by decide +kernel
theorem d_jdk_52_83_2 : decode jdk_52_method_83_code 2 = .ok (.invokestatic 67, 3) := by decide +kernel
theorem d_jdk_52_83_5 : decode jdk_52_method_83_code 5 = .ok (.aload_n 0, 1) := by decide +kernel
theorem d_jdk_52_83_6 : decode jdk_52_method_83_code 6 = .ok (.iload_n 1, 1) := by decide +kernel
theorem d_jdk_52_83_7 : decode jdk_52_method_83_code 7 = .ok (.invokestatic 71, 3) := by decide +kernel
theorem d_jdk_52_83_10 : decode jdk_52_method_83_code 10 = .ok (.ireturn, 1) := by decide +kernel
theorem d_jdk_52_91_0 : decode jdk_52_method_91_code 0 = .ok (.iload_n 0, 1) := by decide +kernel
theorem d_jdk_52_91_1 : decode jdk_52_method_91_code 1 = .ok (.aload_n 1, 1) := by decide +kernel
theorem d_jdk_52_91_2 : decode jdk_52_method_91_code 2 = .ok (.invokestatic 48, 3) := by decide +kernel
theorem d_jdk_52_91_5 : decode jdk_52_method_91_code 5 = .ok (.invokestatic 414, 3) := by decide +kernel
theorem d_jdk_52_91_8 : decode jdk_52_method_91_code 8 = .ok (.return_, 1) := by decide +kernel
theorem d_jdk_52_94_0 : decode jdk_52_method_94_code 0 = .ok (.iload_n 0, 1) := by decide +kernel
theorem d_jdk_52_94_1 : decode jdk_52_method_94_code 1 = .ok (.iload_n 1, 1) := by decide +kernel
theorem d_jdk_52_94_2 : decode jdk_52_method_94_code 2 = .ok (.aload_n 2, 1) := by decide +kernel
theorem d_jdk_52_94_3 : decode jdk_52_method_94_code 3 = .ok (.invokestatic 48, 3) := by decide +kernel
theorem d_jdk_52_94_6 : decode jdk_52_method_94_code 6 = .ok (.invokestatic 419, 3) := by decide +kernel
theorem d_jdk_52_94_9 : decode jdk_52_method_94_code 9 = .ok (.pop, 1) := by decide +kernel
theorem d_jdk_52_94_10 : decode jdk_52_method_94_code 10 = .ok (.return_, 1) := by decide +kernel
theorem d_jdk_65_131_0 : decode jdk_65_method_131_code 0 = .ok (.iload_n 1, 1) := by decide +kernel
theorem d_jdk_65_131_1 : decode jdk_65_method_131_code 1 = .ok (.iload_n 0, 1) := by decide +kernel
theorem d_jdk_65_131_2 : decode jdk_65_method_131_code 2 = .ok (.if_icmp .ge 35, 3) := by decide +kernel
theorem d_jdk_65_131_37 : decode jdk_65_method_131_code 37 = .ok (.return_, 1) := by decide +kernel
theorem d_jdk_65_132_0 : decode jdk_65_method_132_code 0 = .ok (.iload_n 1, 1) := by decide +kernel
theorem d_jdk_65_132_1 : decode jdk_65_method_132_code 1 = .ok (.ifCond .ne 9, 3) := by decide +kernel
theorem d_jdk_65_132_4 : decode jdk_65_method_132_code 4 = .ok (.iload_n 2, 1) := by decide +kernel
theorem d_jdk_65_132_5 : decode jdk_65_method_132_code 5 = .ok (.aload_n 0, 1) := by decide +kernel
theorem d_jdk_65_132_6 : decode jdk_65_method_132_code 6 = .ok (.arraylength, 1) := by decide +kernel
theorem d_jdk_65_132_7 : decode jdk_65_method_132_code 7 = .ok (.if_icmp .eq 10, 3) := by decide +kernel
theorem d_jdk_65_132_10 : decode jdk_65_method_132_code 10 = .ok (.aload_n 0, 1) := by decide +kernel
theorem d_jdk_65_132_11 : decode jdk_65_method_132_code 11 = .ok (.iload_n 1, 1) := by decide +kernel
theorem d_jdk_65_132_12 : decode jdk_65_method_132_code 12 = .ok (.iload_n 2, 1) := by decide +kernel
theorem d_jdk_65_132_13 : decode jdk_65_method_132_code 13 = .ok (.invokestatic 339, 3) := by decide +kernel
theorem d_jdk_65_132_16 : decode jdk_65_method_132_code 16 = .ok (.areturn, 1) := by decide +kernel
theorem d_jdk_65_133_0 : decode jdk_65_method_133_code 0 = .ok (.iload_n 1, 1) := by decide +kernel
theorem d_jdk_65_133_1 : decode jdk_65_method_133_code 1 = .ok (.iload_n 2, 1) := by decide +kernel
theorem d_jdk_65_133_2 : decode jdk_65_method_133_code 2 = .ok (.invokestatic 343, 3) := by decide +kernel
theorem d_jdk_65_133_5 : decode jdk_65_method_133_code 5 = .ok (.iload_n 2, 1) := by decide +kernel
theorem d_jdk_65_133_6 : decode jdk_65_method_133_code 6 = .ok (.iload_n 1, 1) := by decide +kernel
theorem d_jdk_65_133_7 : decode jdk_65_method_133_code 7 = .ok (.isub, 1) := by decide +kernel
theorem d_jdk_65_133_8 : decode jdk_65_method_133_code 8 = .ok (.istore_n 3, 1) := by decide +kernel
theorem d_jdk_65_133_9 : decode jdk_65_method_133_code 9 = .ok (.iload_n 3, 1) := by decide +kernel
theorem d_jdk_65_133_10 : decode jdk_65_method_133_code 10 = .ok (.newarray .byte, 2) := by decide +kernel
theorem d_jdk_65_133_12 : decode jdk_65_method_133_code 12 = .ok (.astore 4, 2) := by decide +kernel
theorem d_jdk_65_133_14 : decode jdk_65_method_133_code 14 = .ok (.aload_n 0, 1) := by decide +kernel
theorem d_jdk_65_133_15 : decode jdk_65_method_133_code 15 = .ok (.iload_n 1, 1) := by decide +kernel
theorem d_jdk_65_133_16 : decode jdk_65_method_133_code 16 = .ok (.aload 4, 2) := by decide +kernel
theorem d_jdk_65_133_18 : decode jdk_65_method_133_code 18 = .ok (.iconst 0, 1) := by decide +kernel
theorem d_jdk_65_133_19 : decode jdk_65_method_133_code 19 = .ok (.aload_n 0, 1) := by decide +kernel
theorem d_jdk_65_133_20 : decode jdk_65_method_133_code 20 = .ok (.arraylength, 1) := by decide +kernel
theorem d_jdk_65_133_21 : decode jdk_65_method_133_code 21 = .ok (.iload_n 1, 1) := by decide +kernel
theorem d_jdk_65_133_22 : decode jdk_65_method_133_code 22 = .ok (.isub, 1) := by decide +kernel
theorem d_jdk_65_133_23 : decode jdk_65_method_133_code 23 = .ok (.iload_n 3, 1) := by decide +kernel
theorem d_jdk_65_133_24 : decode jdk_65_method_133_code 24 = .ok (.invokestatic 304, 3) := by decide +kernel
theorem d_jdk_65_133_27 : decode jdk_65_method_133_code 27 = .ok (.invokestatic 150, 3) := by decide +kernel
theorem d_jdk_65_133_30 : decode jdk_65_method_133_code 30 = .ok (.aload 4, 2) := by decide +kernel
theorem d_jdk_65_133_32 : decode jdk_65_method_133_code 32 = .ok (.areturn, 1) := by decide +kernel
theorem d_2_0 : decode method_2_code 0 = .ok (.iload_n 0, 1) := by decide +kernel
theorem d_2_1 : decode method_2_code 1 = .ok (.ifCond .eq 8, 3) := by decide +kernel
theorem d_2_4 : decode method_2_code 4 = .ok (.iload_n 0, 1) := by decide +kernel
theorem d_2_5 : decode method_2_code 5 = .ok (.iconst 1, 1) := by decide +kernel
theorem d_2_6 : decode method_2_code 6 = .ok (.if_icmp .ne 8, 3) := by decide +kernel
theorem d_2_9 : decode method_2_code 9 = .ok (.bipush 87, 2) := by decide +kernel
theorem d_2_11 : decode method_2_code 11 = .ok (.newarray .char, 2) := by decide +kernel
theorem d_2_13 : decode method_2_code 13 = .ok (.areturn, 1) := by decide +kernel
theorem d_2_14 : decode method_2_code 14 = .ok (.iload_n 0, 1) := by decide +kernel
theorem d_2_15 : decode method_2_code 15 = .ok (.iconst 2, 1) := by decide +kernel
theorem d_2_16 : decode method_2_code 16 = .ok (.if_icmp .ne 8, 3) := by decide +kernel
theorem d_2_19 : decode method_2_code 19 = .ok (.bipush 86, 2) := by decide +kernel
theorem d_2_21 : decode method_2_code 21 = .ok (.newarray .char, 2) := by decide +kernel
theorem d_2_23 : decode method_2_code 23 = .ok (.areturn, 1) := by decide +kernel
theorem d_2_24 : decode method_2_code 24 = .ok (.iload_n 0, 1) := by decide +kernel
theorem d_2_25 : decode method_2_code 25 = .ok (.iconst 3, 1) := by decide +kernel
theorem d_2_26 : decode method_2_code 26 = .ok (.if_icmp .ne 8, 3) := by decide +kernel
theorem d_2_29 : decode method_2_code 29 = .ok (.bipush 88, 2) := by decide +kernel
theorem d_2_31 : decode method_2_code 31 = .ok (.newarray .char, 2) := by decide +kernel
theorem d_2_33 : decode method_2_code 33 = .ok (.areturn, 1) := by decide +kernel
theorem d_2_34 : decode method_2_code 34 = .ok (.iload_n 0, 1) := by decide +kernel
theorem d_2_35 : decode method_2_code 35 = .ok (.iconst 4, 1) := by decide +kernel
theorem d_2_36 : decode method_2_code 36 = .ok (.if_icmp .ne 8, 3) := by decide +kernel
theorem d_2_39 : decode method_2_code 39 = .ok (.bipush 44, 2) := by decide +kernel
theorem d_2_41 : decode method_2_code 41 = .ok (.newarray .char, 2) := by decide +kernel
theorem d_2_43 : decode method_2_code 43 = .ok (.areturn, 1) := by decide +kernel
theorem d_2_44 : decode method_2_code 44 = .ok (.iload_n 0, 1) := by decide +kernel
theorem d_2_45 : decode method_2_code 45 = .ok (.iconst 5, 1) := by decide +kernel
theorem d_2_46 : decode method_2_code 46 = .ok (.if_icmp .ne 8, 3) := by decide +kernel
theorem d_2_49 : decode method_2_code 49 = .ok (.bipush 43, 2) := by decide +kernel
theorem d_2_51 : decode method_2_code 51 = .ok (.newarray .char, 2) := by decide +kernel
theorem d_2_53 : decode method_2_code 53 = .ok (.areturn, 1) := by decide +kernel
theorem d_2_54 : decode method_2_code 54 = .ok (.iload_n 0, 1) := by decide +kernel
theorem d_2_55 : decode method_2_code 55 = .ok (.bipush 6, 2) := by decide +kernel
theorem d_2_57 : decode method_2_code 57 = .ok (.if_icmp .ne 7, 3) := by decide +kernel
theorem d_2_60 : decode method_2_code 60 = .ok (.iconst 1, 1) := by decide +kernel
theorem d_2_61 : decode method_2_code 61 = .ok (.newarray .char, 2) := by decide +kernel
theorem d_2_63 : decode method_2_code 63 = .ok (.areturn, 1) := by decide +kernel
theorem d_2_64 : decode method_2_code 64 = .ok (.iconst 0, 1) := by decide +kernel
theorem d_2_65 : decode method_2_code 65 = .ok (.newarray .char, 2) := by decide +kernel
theorem d_2_67 : decode method_2_code 67 = .ok (.areturn, 1) := by decide +kernel
theorem d_prog_11_5_0 : decode prog_11_method_5_code 0 = .ok (.aload_n 0, 1) := by decide +kernel
theorem d_prog_11_5_1 : decode prog_11_method_5_code 1 = .ok (.invokevirtual 45, 3) := by decide +kernel
theorem d_prog_11_5_4 : decode prog_11_method_5_code 4 = .ok (.bipush 87, 2) := by decide +kernel
theorem d_prog_11_5_6 : decode prog_11_method_5_code 6 = .ok (.if_icmp .ne 14, 3) := by decide +kernel
theorem d_prog_11_5_9 : decode prog_11_method_5_code 9 = .ok (.aload_n 0, 1) := by decide +kernel
theorem d_prog_11_5_10 : decode prog_11_method_5_code 10 = .ok (.bipush 43, 2) := by decide +kernel
theorem d_prog_11_5_12 : decode prog_11_method_5_code 12 = .ok (.invokevirtual 51, 3) := by decide +kernel
theorem d_prog_11_5_15 : decode prog_11_method_5_code 15 = .ok (.bipush 46, 2) := by decide +kernel
theorem d_prog_11_5_17 : decode prog_11_method_5_code 17 = .ok (.if_icmp .eq 7, 3) := by decide +kernel
theorem d_prog_11_5_20 : decode prog_11_method_5_code 20 = .ok (.invokestatic 55, 3) := by decide +kernel
theorem d_prog_11_5_23 : decode prog_11_method_5_code 23 = .ok (.areturn, 1) := by decide +kernel
theorem d_prog_11_5_24 : decode prog_11_method_5_code 24 = .ok (.aload_n 0, 1) := by decide +kernel
theorem d_prog_11_5_25 : decode prog_11_method_5_code 25 = .ok (.iconst 0, 1) := by decide +kernel
theorem d_prog_11_5_26 : decode prog_11_method_5_code 26 = .ok (.bipush 43, 2) := by decide +kernel
theorem d_prog_11_5_28 : decode prog_11_method_5_code 28 = .ok (.invokevirtual 61, 3) := by decide +kernel
theorem d_prog_11_5_31 : decode prog_11_method_5_code 31 = .ok (.invokestatic 65, 3) := by decide +kernel
theorem d_prog_11_5_34 : decode prog_11_method_5_code 34 = .ok (.areturn, 1) := by decide +kernel
theorem pd_0 : parseMethodDescriptor "([CI[BII)I" = some ⟨[(.array .char), .int, (.array .byte), .int, .int], some .int⟩ := by decide +kernel
theorem pd_1 : parseMethodDescriptor "([CII)[B" = some ⟨[(.array .char), .int, .int], some (.array .byte)⟩ := by decide +kernel
theorem pd_2 : parseMethodDescriptor "([BI)B" = some ⟨[(.array .byte), .int], some .byte⟩ := by decide +kernel
theorem pd_3 : parseMethodDescriptor "(I)I" = some ⟨[.int], some .int⟩ := by decide +kernel
theorem pd_4 : parseMethodDescriptor "(I)[B" = some ⟨[.int], some (.array .byte)⟩ := by decide +kernel
theorem pd_5 : parseMethodDescriptor "([BII)V" = some ⟨[(.array .byte), .int, .int], none⟩ := by decide +kernel
theorem pd_6 : parseMethodDescriptor "([BI)C" = some ⟨[(.array .byte), .int], some .char⟩ := by decide +kernel
theorem pd_7 : parseMethodDescriptor "([CIILjava/lang/Void;)V" = some ⟨[(.array .char), .int, .int, (.object "java/lang/Void")], none⟩ := by decide +kernel
theorem pd_8 : parseMethodDescriptor "()B" = some ⟨[], some .byte⟩ := by decide +kernel
theorem pd_9 : parseMethodDescriptor "(IILjava/util/function/BiFunction;)I" = some ⟨[.int, .int, (.object "java/util/function/BiFunction")], some .int⟩ := by decide +kernel
theorem pd_10 : parseMethodDescriptor "(II)V" = some ⟨[.int, .int], none⟩ := by decide +kernel
theorem pd_11 : parseMethodDescriptor "([B)I" = some ⟨[(.array .byte)], some .int⟩ := by decide +kernel
theorem pd_12 : parseMethodDescriptor "(I[B)V" = some ⟨[.int, (.array .byte)], none⟩ := by decide +kernel
theorem pd_13 : parseMethodDescriptor "()Z" = some ⟨[], some .boolean⟩ := by decide +kernel
theorem pd_14 : parseMethodDescriptor "(II)I" = some ⟨[.int, .int], some .int⟩ := by decide +kernel
theorem pd_15 : parseMethodDescriptor "([BII)[B" = some ⟨[(.array .byte), .int, .int], some (.array .byte)⟩ := by decide +kernel
theorem pd_16 : parseMethodDescriptor "(IIILjava/util/function/BiFunction;)I" = some ⟨[.int, .int, .int, (.object "java/util/function/BiFunction")], some .int⟩ := by decide +kernel
theorem pd_17 : parseMethodDescriptor "(III)I" = some ⟨[.int, .int, .int], some .int⟩ := by decide +kernel
theorem pd_18 : parseMethodDescriptor "(II[B)V" = some ⟨[.int, .int, (.array .byte)], none⟩ := by decide +kernel
theorem pd_19 : parseMethodDescriptor "([BI[BII)I" = some ⟨[(.array .byte), .int, (.array .byte), .int, .int], some .int⟩ := by decide +kernel
theorem pd_20 : parseMethodDescriptor "([BB)V" = some ⟨[(.array .byte), .byte], none⟩ := by decide +kernel
theorem pd_21 : parseMethodDescriptor "()I" = some ⟨[], some .int⟩ := by decide +kernel
theorem pd_22 : parseMethodDescriptor "(III)V" = some ⟨[.int, .int, .int], none⟩ := by decide +kernel
theorem pd_23 : parseMethodDescriptor "([BII)Ljava/lang/String;" = some ⟨[(.array .byte), .int, .int], some (.object "java/lang/String")⟩ := by decide +kernel
theorem pd_24 : parseMethodDescriptor "([B[B)Z" = some ⟨[(.array .byte), (.array .byte)], some .boolean⟩ := by decide +kernel
theorem pd_25 : parseMethodDescriptor "(Ljava/lang/Object;)Ljava/lang/Object;" = some ⟨[(.object "java/lang/Object")], some (.object "java/lang/Object")⟩ := by decide +kernel
theorem pd_26 : parseMethodDescriptor "(Ljava/lang/Object;)V" = some ⟨[(.object "java/lang/Object")], none⟩ := by decide +kernel
theorem pd_27 : parseMethodDescriptor "(I)C" = some ⟨[.int], some .char⟩ := by decide +kernel
theorem pd_28 : parseMethodDescriptor "()Ljava/util/Optional;" = some ⟨[], some (.object "java/util/Optional")⟩ := by decide +kernel
theorem pd_29 : parseMethodDescriptor "(II)Ljava/lang/String;" = some ⟨[.int, .int], some (.object "java/lang/String")⟩ := by decide +kernel
theorem pd_30 : parseMethodDescriptor "(Ljava/lang/Object;)Ljava/util/Optional;" = some ⟨[(.object "java/lang/Object")], some (.object "java/util/Optional")⟩ := by decide +kernel
theorem pd_31 : parseMethodDescriptor "([C)V" = some ⟨[(.array .char)], none⟩ := by decide +kernel
theorem pd_32 : parseMethodDescriptor "(Ljava/lang/String;)Ljava/util/Optional;" = some ⟨[(.object "java/lang/String")], some (.object "java/util/Optional")⟩ := by decide +kernel
theorem pd_33 : parseMethodDescriptor "()Ljava/lang/Object;" = some ⟨[], some (.object "java/lang/Object")⟩ := by decide +kernel
theorem pd_34 : parseMethodDescriptor "(Ljava/lang/Object;)Z" = some ⟨[(.object "java/lang/Object")], some .boolean⟩ := by decide +kernel
theorem pd_35 : parseMethodDescriptor "(I)[C" = some ⟨[.int], some (.array .char)⟩ := by decide +kernel
theorem pn_0 : plainName "java/lang/StringUTF16" = true := by first | (simp [plainName, overriddenIn]; done) | decide +kernel
theorem pn_1 : plainName "java/lang/String" = true := by first | (simp [plainName, overriddenIn]; done) | decide +kernel
theorem pn_2 : plainName "jdk/internal/util/Preconditions" = true := by first | (simp [plainName, overriddenIn]; done) | decide +kernel
theorem pn_3 : plainName "java/lang/StringLatin1" = true := by first | (simp [plainName, overriddenIn]; done) | decide +kernel
theorem pn_4 : plainFor (⟨"java/lang/Math", "min", "(II)I"⟩ : MethodName) = true := by decide +kernel
theorem pn_5 : plainName "java/util/Arrays" = true := by first | (simp [plainName, overriddenIn]; done) | decide +kernel
theorem pn_6 : plainName "java/util/Objects" = true := by first | (simp [plainName, overriddenIn]; done) | decide +kernel
theorem pn_7 : plainName "java/util/Optional" = true := by first | (simp [plainName, overriddenIn]; done) | decide +kernel
theorem pn_8 : plainName "com/example/crossgate/crossgate/AgentToken" = true := by first | (simp [plainName, overriddenIn]; done) | decide +kernel
theorem pn_9 : plainName "com/example/crossgate/crossgate/AgentTokenHandleInPinLaw" = true := by first | (simp [plainName, overriddenIn]; done) | decide +kernel
theorem w_0 {a0 : Array Value} {Z : State} (hw : ∀ d ∈ tables_1, d.before a0 Z = true) : (Jvm.Cond.methodLink "com/example/crossgate/crossgate/AgentTokenHandleInPinLaw" (7 : Nat) ({ cls := "com/example/crossgate/crossgate/AgentTokenHandleInPinLaw", name := "pick", desc := "(I)[C" } : Jvm.MethodName)).before a0 Z = true := hw _ (List.mem_of_getElem? (i := 0) rfl)
theorem w_1 {a0 : Array Value} {Z : State} (hw : ∀ d ∈ tables_1, d.before a0 Z = true) : (Jvm.Cond.static ({ cls := "com/example/crossgate/crossgate/AgentTokenHandleInPinLaw", name := "pick", desc := "(I)[C" } : Jvm.MethodName)).before a0 Z = true := hw _ (List.mem_of_getElem? (i := 1) rfl)
theorem w_2 {a0 : Array Value} {Z : State} (hw : ∀ d ∈ tables_1, d.before a0 Z = true) : (Jvm.Cond.initialized "com/example/crossgate/crossgate/AgentTokenHandleInPinLaw").before a0 Z = true := hw _ (List.mem_of_getElem? (i := 2) rfl)
theorem w_3 {a0 : Array Value} {Z : State} (hw : ∀ d ∈ tables_1, d.before a0 Z = true) : (Jvm.Cond.code ({ cls := "com/example/crossgate/crossgate/AgentTokenHandleInPinLaw", name := "pick", desc := "(I)[C" } : Jvm.MethodName) method_2_code (1 : Nat) (Option.some (Jvm.ClassFile.FieldType.array Jvm.ClassFile.FieldType.char))).before a0 Z = true := hw _ (List.mem_of_getElem? (i := 3) rfl)
theorem w_4 {a0 : Array Value} {Z : State} (hw : ∀ d ∈ tables_1, d.before a0 Z = true) : (Jvm.Cond.arrayClass Jvm.ClassFile.FieldType.char).before a0 Z = true := hw _ (List.mem_of_getElem? (i := 4) rfl)
theorem w_5 {a0 : Array Value} {Z : State} (hw : ∀ d ∈ tables_1, d.before a0 Z = true) : (Jvm.Cond.classLink "com/example/crossgate/crossgate/AgentTokenHandleInPinLaw" (13 : Nat) "java/lang/String").before a0 Z = true := hw _ (List.mem_of_getElem? (i := 5) rfl)
theorem w_6 {a0 : Array Value} {Z : State} (hw : ∀ d ∈ tables_1, d.before a0 Z = true) : (Jvm.Cond.instantiable "java/lang/String" (4 : Nat)).before a0 Z = true := hw _ (List.mem_of_getElem? (i := 6) rfl)
theorem w_7 {a0 : Array Value} {Z : State} (hw : ∀ d ∈ tables_1, d.before a0 Z = true) : (Jvm.Cond.initialized "java/lang/String").before a0 Z = true := hw _ (List.mem_of_getElem? (i := 7) rfl)
theorem w_8 {a0 : Array Value} {Z : State} (hw : ∀ d ∈ tables_1, d.before a0 Z = true) : (Jvm.Cond.methodLink "com/example/crossgate/crossgate/AgentTokenHandleInPinLaw" (15 : Nat) ({ cls := "java/lang/String", name := "<init>", desc := "([C)V" } : Jvm.MethodName)).before a0 Z = true := hw _ (List.mem_of_getElem? (i := 8) rfl)
theorem w_9 {a0 : Array Value} {Z : State} (hw : ∀ d ∈ tables_1, d.before a0 Z = true) : (Jvm.Cond.instanceMethod ({ cls := "java/lang/String", name := "<init>", desc := "([C)V" } : Jvm.MethodName)).before a0 Z = true := hw _ (List.mem_of_getElem? (i := 9) rfl)
theorem w_10 {a0 : Array Value} {Z : State} (hw : ∀ d ∈ tables_1, d.before a0 Z = true) : (Jvm.Cond.code ({ cls := "java/lang/String", name := "<init>", desc := "([C)V" } : Jvm.MethodName) jdk_42_method_3_code (2 : Nat) (Option.none : Option Jvm.ClassFile.FieldType)).before a0 Z = true := hw _ (List.mem_of_getElem? (i := 10) rfl)
theorem w_11 {a0 : Array Value} {Z : State} (hw : ∀ d ∈ tables_1, d.before a0 Z = true) : (Jvm.Cond.methodLink "java/lang/String" (27 : Nat) ({ cls := "java/lang/String", name := "<init>", desc := "([CIILjava/lang/Void;)V" } : Jvm.MethodName)).before a0 Z = true := hw _ (List.mem_of_getElem? (i := 11) rfl)
theorem w_12 {a0 : Array Value} {Z : State} (hw : ∀ d ∈ tables_1, d.before a0 Z = true) : (Jvm.Cond.instanceMethod ({ cls := "java/lang/String", name := "<init>", desc := "([CIILjava/lang/Void;)V" } : Jvm.MethodName)).before a0 Z = true := hw _ (List.mem_of_getElem? (i := 12) rfl)
theorem w_14 {a0 : Array Value} {Z : State} (hw : ∀ d ∈ tables_1, d.before a0 Z = true) : (Jvm.Cond.code ({ cls := "java/lang/String", name := "<init>", desc := "([CIILjava/lang/Void;)V" } : Jvm.MethodName) jdk_42_method_149_code (6 : Nat) (Option.none : Option Jvm.ClassFile.FieldType)).before a0 Z = true := hw _ (List.mem_of_getElem? (i := 14) rfl)
theorem w_15 {a0 : Array Value} {Z : State} (hw : ∀ d ∈ tables_1, d.before a0 Z = true) : (Jvm.Cond.methodLink "java/lang/String" (1 : Nat) ({ cls := "java/lang/Object", name := "<init>", desc := "()V" } : Jvm.MethodName)).before a0 Z = true := hw _ (List.mem_of_getElem? (i := 15) rfl)
theorem w_16 {a0 : Array Value} {Z : State} (hw : ∀ d ∈ tables_1, d.before a0 Z = true) : (Jvm.Cond.instanceMethod ({ cls := "java/lang/Object", name := "<init>", desc := "()V" } : Jvm.MethodName)).before a0 Z = true := hw _ (List.mem_of_getElem? (i := 16) rfl)
theorem w_17 {a0 : Array Value} {Z : State} (hw : ∀ d ∈ tables_1, d.before a0 Z = true) : (Jvm.Cond.code ({ cls := "java/lang/Object", name := "<init>", desc := "()V" } : Jvm.MethodName) object_method_1_code (1 : Nat) (Option.none : Option Jvm.ClassFile.FieldType)).before a0 Z = true := hw _ (List.mem_of_getElem? (i := 17) rfl)
theorem w_18 {a0 : Array Value} {Z : State} (hw : ∀ d ∈ tables_1, d.before a0 Z = true) : (Jvm.Cond.fieldLink "java/lang/String" (38 : Nat) "java/lang/String" "COMPACT_STRINGS" "Z").before a0 Z = true := hw _ (List.mem_of_getElem? (i := 18) rfl)
theorem w_19 {a0 : Array Value} {Z : State} (hw : ∀ d ∈ tables_1, d.before a0 Z = true) : (Jvm.Cond.methodLink "java/lang/String" (177 : Nat) ({ cls := "java/lang/StringUTF16", name := "compress", desc := "([CII)[B" } : Jvm.MethodName)).before a0 Z = true := hw _ (List.mem_of_getElem? (i := 19) rfl)
theorem w_20 {a0 : Array Value} {Z : State} (hw : ∀ d ∈ tables_1, d.before a0 Z = true) : (Jvm.Cond.static ({ cls := "java/lang/StringUTF16", name := "compress", desc := "([CII)[B" } : Jvm.MethodName)).before a0 Z = true := hw _ (List.mem_of_getElem? (i := 20) rfl)
theorem w_21 {a0 : Array Value} {Z : State} (hw : ∀ d ∈ tables_1, d.before a0 Z = true) : (Jvm.Cond.initialized "java/lang/StringUTF16").before a0 Z = true := hw _ (List.mem_of_getElem? (i := 21) rfl)
theorem w_22 {a0 : Array Value} {Z : State} (hw : ∀ d ∈ tables_1, d.before a0 Z = true) : (Jvm.Cond.code ({ cls := "java/lang/StringUTF16", name := "compress", desc := "([CII)[B" } : Jvm.MethodName) jdk_52_method_16_code (6 : Nat) (Option.some (Jvm.ClassFile.FieldType.array Jvm.ClassFile.FieldType.byte))).before a0 Z = true := hw _ (List.mem_of_getElem? (i := 22) rfl)
theorem w_23 {a0 : Array Value} {Z : State} (hw : ∀ d ∈ tables_1, d.before a0 Z = true) : (Jvm.Cond.arrayClass Jvm.ClassFile.FieldType.byte).before a0 Z = true := hw _ (List.mem_of_getElem? (i := 23) rfl)
theorem w_24 {a0 : Array Value} {Z : State} (hw : ∀ d ∈ tables_1, d.before a0 Z = true) : (Jvm.Cond.methodLink "java/lang/StringUTF16" (115 : Nat) ({ cls := "java/lang/StringUTF16", name := "compress", desc := "([CI[BII)I" } : Jvm.MethodName)).before a0 Z = true := hw _ (List.mem_of_getElem? (i := 24) rfl)
theorem w_25 {a0 : Array Value} {Z : State} (hw : ∀ d ∈ tables_1, d.before a0 Z = true) : (Jvm.Cond.static ({ cls := "java/lang/StringUTF16", name := "compress", desc := "([CI[BII)I" } : Jvm.MethodName)).before a0 Z = true := hw _ (List.mem_of_getElem? (i := 25) rfl)
theorem w_26 {a0 : Array Value} {Z : State} (hw : ∀ d ∈ tables_1, d.before a0 Z = true) : (Jvm.Cond.code ({ cls := "java/lang/StringUTF16", name := "compress", desc := "([CI[BII)I" } : Jvm.MethodName) jdk_52_method_21_code (7 : Nat) (Option.some Jvm.ClassFile.FieldType.int)).before a0 Z = true := hw _ (List.mem_of_getElem? (i := 26) rfl)
theorem w_27 {a0 : Array Value} {Z : State} (hw : ∀ d ∈ tables_1, d.before a0 Z = true) : (Jvm.Cond.methodLink "java/lang/String" (47 : Nat) ({ cls := "java/lang/StringUTF16", name := "coderFromArrayLen", desc := "([BI)B" } : Jvm.MethodName)).before a0 Z = true := hw _ (List.mem_of_getElem? (i := 27) rfl)
theorem w_28 {a0 : Array Value} {Z : State} (hw : ∀ d ∈ tables_1, d.before a0 Z = true) : (Jvm.Cond.static ({ cls := "java/lang/StringUTF16", name := "coderFromArrayLen", desc := "([BI)B" } : Jvm.MethodName)).before a0 Z = true := hw _ (List.mem_of_getElem? (i := 28) rfl)
theorem w_29 {a0 : Array Value} {Z : State} (hw : ∀ d ∈ tables_1, d.before a0 Z = true) : (Jvm.Cond.code ({ cls := "java/lang/StringUTF16", name := "coderFromArrayLen", desc := "([BI)B" } : Jvm.MethodName) jdk_52_method_15_code (2 : Nat) (Option.some Jvm.ClassFile.FieldType.byte)).before a0 Z = true := hw _ (List.mem_of_getElem? (i := 29) rfl)
theorem w_30 {a0 : Array Value} {Z : State} (hw : ∀ d ∈ tables_1, d.before a0 Z = true) : (Jvm.Cond.fieldLink "java/lang/String" (15 : Nat) "java/lang/String" "coder" "B").before a0 Z = true := hw _ (List.mem_of_getElem? (i := 30) rfl)
theorem w_31 {a0 : Array Value} {Z : State} (hw : ∀ d ∈ tables_1, d.before a0 Z = true) : (Jvm.Cond.laysFinal "java/lang/String" "java/lang/String" "coder" "B").before a0 Z = true := hw _ (List.mem_of_getElem? (i := 31) rfl)
theorem w_32 {a0 : Array Value} {Z : State} (hw : ∀ d ∈ tables_1, d.before a0 Z = true) : (Jvm.Cond.fieldLink "java/lang/String" (9 : Nat) "java/lang/String" "value" "[B").before a0 Z = true := hw _ (List.mem_of_getElem? (i := 32) rfl)
theorem w_33 {a0 : Array Value} {Z : State} (hw : ∀ d ∈ tables_1, d.before a0 Z = true) : (Jvm.Cond.laysFinal "java/lang/String" "java/lang/String" "value" "[B").before a0 Z = true := hw _ (List.mem_of_getElem? (i := 33) rfl)
theorem w_34 {a0 : Array Value} {Z : State} (hw : ∀ d ∈ tables_1, d.before a0 Z = true) : (Jvm.Cond.methodLink "com/example/crossgate/crossgate/AgentTokenHandleInPinLaw" (18 : Nat) ({ cls := "com/example/crossgate/crossgate/AgentToken", name := "handleIn", desc := "(Ljava/lang/String;)Ljava/util/Optional;" } : Jvm.MethodName)).before a0 Z = true := hw _ (List.mem_of_getElem? (i := 34) rfl)
theorem w_35 {a0 : Array Value} {Z : State} (hw : ∀ d ∈ tables_1, d.before a0 Z = true) : (Jvm.Cond.static ({ cls := "com/example/crossgate/crossgate/AgentToken", name := "handleIn", desc := "(Ljava/lang/String;)Ljava/util/Optional;" } : Jvm.MethodName)).before a0 Z = true := hw _ (List.mem_of_getElem? (i := 35) rfl)
theorem w_36 {a0 : Array Value} {Z : State} (hw : ∀ d ∈ tables_1, d.before a0 Z = true) : (Jvm.Cond.initialized "com/example/crossgate/crossgate/AgentToken").before a0 Z = true := hw _ (List.mem_of_getElem? (i := 36) rfl)
theorem w_37 {a0 : Array Value} {Z : State} (hw : ∀ d ∈ tables_1, d.before a0 Z = true) : (Jvm.Cond.code ({ cls := "com/example/crossgate/crossgate/AgentToken", name := "handleIn", desc := "(Ljava/lang/String;)Ljava/util/Optional;" } : Jvm.MethodName) prog_11_method_5_code (1 : Nat) (Option.some (Jvm.ClassFile.FieldType.object "java/util/Optional"))).before a0 Z = true := hw _ (List.mem_of_getElem? (i := 37) rfl)
theorem w_38 {a0 : Array Value} {Z : State} (hw : ∀ d ∈ tables_1, d.before a0 Z = true) : (Jvm.Cond.methodLink "com/example/crossgate/crossgate/AgentToken" (45 : Nat) ({ cls := "java/lang/String", name := "length", desc := "()I" } : Jvm.MethodName)).before a0 Z = true := hw _ (List.mem_of_getElem? (i := 38) rfl)
theorem w_39 {a0 : Array Value} {Z : State} (hw : ∀ d ∈ tables_1, d.before a0 Z = true) : (Jvm.Cond.declares ({ cls := "java/lang/String", name := "length", desc := "()I" } : Jvm.MethodName)).before a0 Z = true := hw _ (List.mem_of_getElem? (i := 39) rfl)
theorem w_40 {a0 : Array Value} {Z : State} (hw : ∀ d ∈ tables_1, d.before a0 Z = true) : (Jvm.Cond.instanceMethod ({ cls := "java/lang/String", name := "length", desc := "()I" } : Jvm.MethodName)).before a0 Z = true := hw _ (List.mem_of_getElem? (i := 40) rfl)
theorem w_41 {a0 : Array Value} {Z : State} (hw : ∀ d ∈ tables_1, d.before a0 Z = true) : (Jvm.Cond.selects "java/lang/String" ({ cls := "java/lang/String", name := "length", desc := "()I" } : Jvm.MethodName) ({ cls := "java/lang/String", name := "length", desc := "()I" } : Jvm.MethodName)).before a0 Z = true := hw _ (List.mem_of_getElem? (i := 41) rfl)
theorem w_42 {a0 : Array Value} {Z : State} (hw : ∀ d ∈ tables_1, d.before a0 Z = true) : (Jvm.Cond.code ({ cls := "java/lang/String", name := "length", desc := "()I" } : Jvm.MethodName) jdk_42_method_54_code (1 : Nat) (Option.some Jvm.ClassFile.FieldType.int)).before a0 Z = true := hw _ (List.mem_of_getElem? (i := 42) rfl)
theorem w_43 {a0 : Array Value} {Z : State} (hw : ∀ d ∈ tables_1, d.before a0 Z = true) : (Jvm.Cond.methodLink "java/lang/String" (335 : Nat) ({ cls := "java/lang/String", name := "coder", desc := "()B" } : Jvm.MethodName)).before a0 Z = true := hw _ (List.mem_of_getElem? (i := 43) rfl)
theorem w_44 {a0 : Array Value} {Z : State} (hw : ∀ d ∈ tables_1, d.before a0 Z = true) : (Jvm.Cond.declares ({ cls := "java/lang/String", name := "coder", desc := "()B" } : Jvm.MethodName)).before a0 Z = true := hw _ (List.mem_of_getElem? (i := 44) rfl)
theorem w_45 {a0 : Array Value} {Z : State} (hw : ∀ d ∈ tables_1, d.before a0 Z = true) : (Jvm.Cond.instanceMethod ({ cls := "java/lang/String", name := "coder", desc := "()B" } : Jvm.MethodName)).before a0 Z = true := hw _ (List.mem_of_getElem? (i := 45) rfl)
theorem w_46 {a0 : Array Value} {Z : State} (hw : ∀ d ∈ tables_1, d.before a0 Z = true) : (Jvm.Cond.selects "java/lang/String" ({ cls := "java/lang/String", name := "coder", desc := "()B" } : Jvm.MethodName) ({ cls := "java/lang/String", name := "coder", desc := "()B" } : Jvm.MethodName)).before a0 Z = true := hw _ (List.mem_of_getElem? (i := 46) rfl)
theorem w_47 {a0 : Array Value} {Z : State} (hw : ∀ d ∈ tables_1, d.before a0 Z = true) : (Jvm.Cond.code ({ cls := "java/lang/String", name := "coder", desc := "()B" } : Jvm.MethodName) jdk_42_method_152_code (1 : Nat) (Option.some Jvm.ClassFile.FieldType.byte)).before a0 Z = true := hw _ (List.mem_of_getElem? (i := 47) rfl)
theorem w_48 {a0 : Array Value} {Z : State} (hw : ∀ d ∈ tables_1, d.before a0 Z = true) : (Jvm.Cond.methodLink "com/example/crossgate/crossgate/AgentToken" (51 : Nat) ({ cls := "java/lang/String", name := "charAt", desc := "(I)C" } : Jvm.MethodName)).before a0 Z = true := hw _ (List.mem_of_getElem? (i := 48) rfl)
theorem w_49 {a0 : Array Value} {Z : State} (hw : ∀ d ∈ tables_1, d.before a0 Z = true) : (Jvm.Cond.declares ({ cls := "java/lang/String", name := "charAt", desc := "(I)C" } : Jvm.MethodName)).before a0 Z = true := hw _ (List.mem_of_getElem? (i := 49) rfl)
theorem w_50 {a0 : Array Value} {Z : State} (hw : ∀ d ∈ tables_1, d.before a0 Z = true) : (Jvm.Cond.instanceMethod ({ cls := "java/lang/String", name := "charAt", desc := "(I)C" } : Jvm.MethodName)).before a0 Z = true := hw _ (List.mem_of_getElem? (i := 50) rfl)
theorem w_51 {a0 : Array Value} {Z : State} (hw : ∀ d ∈ tables_1, d.before a0 Z = true) : (Jvm.Cond.selects "java/lang/String" ({ cls := "java/lang/String", name := "charAt", desc := "(I)C" } : Jvm.MethodName) ({ cls := "java/lang/String", name := "charAt", desc := "(I)C" } : Jvm.MethodName)).before a0 Z = true := hw _ (List.mem_of_getElem? (i := 51) rfl)
theorem w_52 {a0 : Array Value} {Z : State} (hw : ∀ d ∈ tables_1, d.before a0 Z = true) : (Jvm.Cond.code ({ cls := "java/lang/String", name := "charAt", desc := "(I)C" } : Jvm.MethodName) jdk_42_method_56_code (2 : Nat) (Option.some Jvm.ClassFile.FieldType.char)).before a0 Z = true := hw _ (List.mem_of_getElem? (i := 52) rfl)
theorem w_53 {a0 : Array Value} {Z : State} (hw : ∀ d ∈ tables_1, d.before a0 Z = true) : (Jvm.Cond.methodLink "java/lang/String" (492 : Nat) ({ cls := "java/lang/String", name := "isLatin1", desc := "()Z" } : Jvm.MethodName)).before a0 Z = true := hw _ (List.mem_of_getElem? (i := 53) rfl)
theorem w_54 {a0 : Array Value} {Z : State} (hw : ∀ d ∈ tables_1, d.before a0 Z = true) : (Jvm.Cond.declares ({ cls := "java/lang/String", name := "isLatin1", desc := "()Z" } : Jvm.MethodName)).before a0 Z = true := hw _ (List.mem_of_getElem? (i := 54) rfl)
theorem w_55 {a0 : Array Value} {Z : State} (hw : ∀ d ∈ tables_1, d.before a0 Z = true) : (Jvm.Cond.instanceMethod ({ cls := "java/lang/String", name := "isLatin1", desc := "()Z" } : Jvm.MethodName)).before a0 Z = true := hw _ (List.mem_of_getElem? (i := 55) rfl)
theorem w_56 {a0 : Array Value} {Z : State} (hw : ∀ d ∈ tables_1, d.before a0 Z = true) : (Jvm.Cond.selects "java/lang/String" ({ cls := "java/lang/String", name := "isLatin1", desc := "()Z" } : Jvm.MethodName) ({ cls := "java/lang/String", name := "isLatin1", desc := "()Z" } : Jvm.MethodName)).before a0 Z = true := hw _ (List.mem_of_getElem? (i := 56) rfl)
theorem w_57 {a0 : Array Value} {Z : State} (hw : ∀ d ∈ tables_1, d.before a0 Z = true) : (Jvm.Cond.code ({ cls := "java/lang/String", name := "isLatin1", desc := "()Z" } : Jvm.MethodName) jdk_42_method_154_code (1 : Nat) (Option.some Jvm.ClassFile.FieldType.boolean)).before a0 Z = true := hw _ (List.mem_of_getElem? (i := 57) rfl)
theorem w_58 {a0 : Array Value} {Z : State} (hw : ∀ d ∈ tables_1, d.before a0 Z = true) : (Jvm.Cond.methodLink "java/lang/String" (495 : Nat) ({ cls := "java/lang/StringLatin1", name := "charAt", desc := "([BI)C" } : Jvm.MethodName)).before a0 Z = true := hw _ (List.mem_of_getElem? (i := 58) rfl)
theorem w_59 {a0 : Array Value} {Z : State} (hw : ∀ d ∈ tables_1, d.before a0 Z = true) : (Jvm.Cond.static ({ cls := "java/lang/StringLatin1", name := "charAt", desc := "([BI)C" } : Jvm.MethodName)).before a0 Z = true := hw _ (List.mem_of_getElem? (i := 59) rfl)
theorem w_60 {a0 : Array Value} {Z : State} (hw : ∀ d ∈ tables_1, d.before a0 Z = true) : (Jvm.Cond.initialized "java/lang/StringLatin1").before a0 Z = true := hw _ (List.mem_of_getElem? (i := 60) rfl)
theorem w_61 {a0 : Array Value} {Z : State} (hw : ∀ d ∈ tables_1, d.before a0 Z = true) : (Jvm.Cond.code ({ cls := "java/lang/StringLatin1", name := "charAt", desc := "([BI)C" } : Jvm.MethodName) jdk_43_method_2_code (2 : Nat) (Option.some Jvm.ClassFile.FieldType.char)).before a0 Z = true := hw _ (List.mem_of_getElem? (i := 61) rfl)
theorem w_62 {a0 : Array Value} {Z : State} (hw : ∀ d ∈ tables_1, d.before a0 Z = true) : (Jvm.Cond.methodLink "java/lang/StringLatin1" (9 : Nat) ({ cls := "java/lang/String", name := "checkIndex", desc := "(II)V" } : Jvm.MethodName)).before a0 Z = true := hw _ (List.mem_of_getElem? (i := 62) rfl)
theorem w_63 {a0 : Array Value} {Z : State} (hw : ∀ d ∈ tables_1, d.before a0 Z = true) : (Jvm.Cond.static ({ cls := "java/lang/String", name := "checkIndex", desc := "(II)V" } : Jvm.MethodName)).before a0 Z = true := hw _ (List.mem_of_getElem? (i := 63) rfl)
theorem w_64 {a0 : Array Value} {Z : State} (hw : ∀ d ∈ tables_1, d.before a0 Z = true) : (Jvm.Cond.code ({ cls := "java/lang/String", name := "checkIndex", desc := "(II)V" } : Jvm.MethodName) jdk_42_method_155_code (2 : Nat) (Option.none : Option Jvm.ClassFile.FieldType)).before a0 Z = true := hw _ (List.mem_of_getElem? (i := 64) rfl)
theorem w_65 {a0 : Array Value} {Z : State} (hw : ∀ d ∈ tables_1, d.before a0 Z = true) : (Jvm.Cond.fieldLink "java/lang/String" (1053 : Nat) "jdk/internal/util/Preconditions" "SIOOBE_FORMATTER" "Ljava/util/function/BiFunction;").before a0 Z = true := hw _ (List.mem_of_getElem? (i := 65) rfl)
theorem w_66 {a0 : Array Value} {Z : State} (hw : ∀ d ∈ tables_1, d.before a0 Z = true) : (Jvm.Cond.initialized "jdk/internal/util/Preconditions").before a0 Z = true := hw _ (List.mem_of_getElem? (i := 66) rfl)
theorem w_67 {a0 : Array Value} {Z : State} (hw : ∀ d ∈ tables_1, d.before a0 Z = true) : (Jvm.Cond.methodLink "java/lang/String" (1059 : Nat) ({ cls := "jdk/internal/util/Preconditions", name := "checkIndex", desc := "(IILjava/util/function/BiFunction;)I" } : Jvm.MethodName)).before a0 Z = true := hw _ (List.mem_of_getElem? (i := 67) rfl)
theorem w_68 {a0 : Array Value} {Z : State} (hw : ∀ d ∈ tables_1, d.before a0 Z = true) : (Jvm.Cond.static ({ cls := "jdk/internal/util/Preconditions", name := "checkIndex", desc := "(IILjava/util/function/BiFunction;)I" } : Jvm.MethodName)).before a0 Z = true := hw _ (List.mem_of_getElem? (i := 68) rfl)
theorem w_69 {a0 : Array Value} {Z : State} (hw : ∀ d ∈ tables_1, d.before a0 Z = true) : (Jvm.Cond.code ({ cls := "jdk/internal/util/Preconditions", name := "checkIndex", desc := "(IILjava/util/function/BiFunction;)I" } : Jvm.MethodName) jdk_41_method_11_code (3 : Nat) (Option.some Jvm.ClassFile.FieldType.int)).before a0 Z = true := hw _ (List.mem_of_getElem? (i := 69) rfl)
theorem w_70 {a0 : Array Value} {Z : State} (hw : ∀ d ∈ tables_1, d.before a0 Z = true) : (Jvm.Cond.methodLink "com/example/crossgate/crossgate/AgentToken" (55 : Nat) ({ cls := "java/util/Optional", name := "empty", desc := "()Ljava/util/Optional;" } : Jvm.MethodName)).before a0 Z = true := hw _ (List.mem_of_getElem? (i := 70) rfl)
theorem w_71 {a0 : Array Value} {Z : State} (hw : ∀ d ∈ tables_1, d.before a0 Z = true) : (Jvm.Cond.static ({ cls := "java/util/Optional", name := "empty", desc := "()Ljava/util/Optional;" } : Jvm.MethodName)).before a0 Z = true := hw _ (List.mem_of_getElem? (i := 71) rfl)
theorem w_72 {a0 : Array Value} {Z : State} (hw : ∀ d ∈ tables_1, d.before a0 Z = true) : (Jvm.Cond.initialized "java/util/Optional").before a0 Z = true := hw _ (List.mem_of_getElem? (i := 72) rfl)
theorem w_73 {a0 : Array Value} {Z : State} (hw : ∀ d ∈ tables_1, d.before a0 Z = true) : (Jvm.Cond.code ({ cls := "java/util/Optional", name := "empty", desc := "()Ljava/util/Optional;" } : Jvm.MethodName) jdk_32_method_1_code (1 : Nat) (Option.some (Jvm.ClassFile.FieldType.object "java/util/Optional"))).before a0 Z = true := hw _ (List.mem_of_getElem? (i := 73) rfl)
theorem w_74 {a0 : Array Value} {Z : State} (hw : ∀ d ∈ tables_1, d.before a0 Z = true) : (Jvm.Cond.fieldLink "java/util/Optional" (1 : Nat) "java/util/Optional" "EMPTY" "Ljava/util/Optional;").before a0 Z = true := hw _ (List.mem_of_getElem? (i := 74) rfl)
theorem w_75 {a0 : Array Value} {Z : State} (hw : ∀ d ∈ tables_1, d.before a0 Z = true) : (Jvm.Cond.methodLink "com/example/crossgate/crossgate/AgentTokenHandleInPinLaw" (24 : Nat) ({ cls := "java/util/Optional", name := "isPresent", desc := "()Z" } : Jvm.MethodName)).before a0 Z = true := hw _ (List.mem_of_getElem? (i := 75) rfl)
theorem w_76 {a0 : Array Value} {Z : State} (hw : ∀ d ∈ tables_1, d.before a0 Z = true) : (Jvm.Cond.declares ({ cls := "java/util/Optional", name := "isPresent", desc := "()Z" } : Jvm.MethodName)).before a0 Z = true := hw _ (List.mem_of_getElem? (i := 76) rfl)
theorem w_77 {a0 : Array Value} {Z : State} (hw : ∀ d ∈ tables_1, d.before a0 Z = true) : (Jvm.Cond.instanceMethod ({ cls := "java/util/Optional", name := "isPresent", desc := "()Z" } : Jvm.MethodName)).before a0 Z = true := hw _ (List.mem_of_getElem? (i := 77) rfl)
theorem w_78 {a0 : Array Value} {Z : State} (hw : ∀ d ∈ tables_1, d.before a0 Z = true) : (Jvm.Cond.selects "java/util/Optional" ({ cls := "java/util/Optional", name := "isPresent", desc := "()Z" } : Jvm.MethodName) ({ cls := "java/util/Optional", name := "isPresent", desc := "()Z" } : Jvm.MethodName)).before a0 Z = true := hw _ (List.mem_of_getElem? (i := 78) rfl)
theorem w_79 {a0 : Array Value} {Z : State} (hw : ∀ d ∈ tables_1, d.before a0 Z = true) : (Jvm.Cond.code ({ cls := "java/util/Optional", name := "isPresent", desc := "()Z" } : Jvm.MethodName) jdk_32_method_6_code (1 : Nat) (Option.some Jvm.ClassFile.FieldType.boolean)).before a0 Z = true := hw _ (List.mem_of_getElem? (i := 79) rfl)
theorem w_80 {a0 : Array Value} {Z : State} (hw : ∀ d ∈ tables_1, d.before a0 Z = true) : (Jvm.Cond.fieldLink "java/util/Optional" (13 : Nat) "java/util/Optional" "value" "Ljava/lang/Object;").before a0 Z = true := hw _ (List.mem_of_getElem? (i := 80) rfl)
theorem w_81 {a0 : Array Value} {Z : State} (hw : ∀ d ∈ tables_1, d.before a0 Z = true) : (Jvm.Cond.laysFinal "java/util/Optional" "java/util/Optional" "value" "Ljava/lang/Object;").before a0 Z = true := hw _ (List.mem_of_getElem? (i := 81) rfl)
theorem w_82 {a0 : Array Value} {Z : State} (hw : ∀ d ∈ tables_1, d.before a0 Z = true) : (Jvm.Cond.methodLink "java/lang/StringUTF16" (119 : Nat) ({ cls := "java/lang/StringUTF16", name := "toBytes", desc := "([CII)[B" } : Jvm.MethodName)).before a0 Z = true := hw _ (List.mem_of_getElem? (i := 82) rfl)
theorem w_83 {a0 : Array Value} {Z : State} (hw : ∀ d ∈ tables_1, d.before a0 Z = true) : (Jvm.Cond.static ({ cls := "java/lang/StringUTF16", name := "toBytes", desc := "([CII)[B" } : Jvm.MethodName)).before a0 Z = true := hw _ (List.mem_of_getElem? (i := 83) rfl)
theorem w_84 {a0 : Array Value} {Z : State} (hw : ∀ d ∈ tables_1, d.before a0 Z = true) : (Jvm.Cond.code ({ cls := "java/lang/StringUTF16", name := "toBytes", desc := "([CII)[B" } : Jvm.MethodName) jdk_52_method_14_code (5 : Nat) (Option.some (Jvm.ClassFile.FieldType.array Jvm.ClassFile.FieldType.byte))).before a0 Z = true := hw _ (List.mem_of_getElem? (i := 84) rfl)
theorem w_85 {a0 : Array Value} {Z : State} (hw : ∀ d ∈ tables_1, d.before a0 Z = true) : (Jvm.Cond.methodLink "java/lang/StringUTF16" (107 : Nat) ({ cls := "java/lang/StringUTF16", name := "newBytesFor", desc := "(I)[B" } : Jvm.MethodName)).before a0 Z = true := hw _ (List.mem_of_getElem? (i := 85) rfl)
theorem w_86 {a0 : Array Value} {Z : State} (hw : ∀ d ∈ tables_1, d.before a0 Z = true) : (Jvm.Cond.static ({ cls := "java/lang/StringUTF16", name := "newBytesFor", desc := "(I)[B" } : Jvm.MethodName)).before a0 Z = true := hw _ (List.mem_of_getElem? (i := 86) rfl)
theorem w_87 {a0 : Array Value} {Z : State} (hw : ∀ d ∈ tables_1, d.before a0 Z = true) : (Jvm.Cond.code ({ cls := "java/lang/StringUTF16", name := "newBytesFor", desc := "(I)[B" } : Jvm.MethodName) jdk_52_method_2_code (1 : Nat) (Option.some (Jvm.ClassFile.FieldType.array Jvm.ClassFile.FieldType.byte))).before a0 Z = true := hw _ (List.mem_of_getElem? (i := 87) rfl)
theorem w_88 {a0 : Array Value} {Z : State} (hw : ∀ d ∈ tables_1, d.before a0 Z = true) : (Jvm.Cond.methodLink "java/lang/StringUTF16" (11 : Nat) ({ cls := "java/lang/StringUTF16", name := "newBytesLength", desc := "(I)I" } : Jvm.MethodName)).before a0 Z = true := hw _ (List.mem_of_getElem? (i := 88) rfl)
theorem w_89 {a0 : Array Value} {Z : State} (hw : ∀ d ∈ tables_1, d.before a0 Z = true) : (Jvm.Cond.static ({ cls := "java/lang/StringUTF16", name := "newBytesLength", desc := "(I)I" } : Jvm.MethodName)).before a0 Z = true := hw _ (List.mem_of_getElem? (i := 89) rfl)
theorem w_90 {a0 : Array Value} {Z : State} (hw : ∀ d ∈ tables_1, d.before a0 Z = true) : (Jvm.Cond.code ({ cls := "java/lang/StringUTF16", name := "newBytesLength", desc := "(I)I" } : Jvm.MethodName) jdk_52_method_3_code (1 : Nat) (Option.some Jvm.ClassFile.FieldType.int)).before a0 Z = true := hw _ (List.mem_of_getElem? (i := 90) rfl)
theorem w_91 {a0 : Array Value} {Z : State} (hw : ∀ d ∈ tables_1, d.before a0 Z = true) : (Jvm.Cond.constant "java/lang/StringUTF16" (20 : Nat) (1073741823 : Int32)).before a0 Z = true := hw _ (List.mem_of_getElem? (i := 91) rfl)
theorem w_92 {a0 : Array Value} {Z : State} (hw : ∀ d ∈ tables_1, d.before a0 Z = true) : (Jvm.Cond.methodLink "java/lang/StringUTF16" (111 : Nat) ({ cls := "java/lang/StringUTF16", name := "putChar", desc := "([BII)V" } : Jvm.MethodName)).before a0 Z = true := hw _ (List.mem_of_getElem? (i := 92) rfl)
theorem w_93 {a0 : Array Value} {Z : State} (hw : ∀ d ∈ tables_1, d.before a0 Z = true) : (Jvm.Cond.static ({ cls := "java/lang/StringUTF16", name := "putChar", desc := "([BII)V" } : Jvm.MethodName)).before a0 Z = true := hw _ (List.mem_of_getElem? (i := 93) rfl)
theorem w_94 {a0 : Array Value} {Z : State} (hw : ∀ d ∈ tables_1, d.before a0 Z = true) : (Jvm.Cond.code ({ cls := "java/lang/StringUTF16", name := "putChar", desc := "([BII)V" } : Jvm.MethodName) jdk_52_method_4_code (3 : Nat) (Option.none : Option Jvm.ClassFile.FieldType)).before a0 Z = true := hw _ (List.mem_of_getElem? (i := 94) rfl)
theorem w_95 {a0 : Array Value} {Z : State} (hw : ∀ d ∈ tables_1, d.before a0 Z = true) : (Jvm.Cond.fieldLink "java/lang/StringUTF16" (44 : Nat) "java/lang/StringUTF16" "$assertionsDisabled" "Z").before a0 Z = true := hw _ (List.mem_of_getElem? (i := 95) rfl)
theorem w_96 {a0 : Array Value} {Z : State} (hw : ∀ d ∈ tables_1, d.before a0 Z = true) : (Jvm.Cond.fieldLink "java/lang/StringUTF16" (59 : Nat) "java/lang/StringUTF16" "HI_BYTE_SHIFT" "I").before a0 Z = true := hw _ (List.mem_of_getElem? (i := 96) rfl)
theorem w_97 {a0 : Array Value} {Z : State} (hw : ∀ d ∈ tables_1, d.before a0 Z = true) : (Jvm.Cond.fieldLink "java/lang/StringUTF16" (63 : Nat) "java/lang/StringUTF16" "LO_BYTE_SHIFT" "I").before a0 Z = true := hw _ (List.mem_of_getElem? (i := 97) rfl)
theorem w_98 {a0 : Array Value} {Z : State} (hw : ∀ d ∈ tables_1, d.before a0 Z = true) : (Jvm.Cond.methodLink "java/lang/StringUTF16" (71 : Nat) ({ cls := "java/lang/StringUTF16", name := "getChar", desc := "([BI)C" } : Jvm.MethodName)).before a0 Z = true := hw _ (List.mem_of_getElem? (i := 98) rfl)
theorem w_99 {a0 : Array Value} {Z : State} (hw : ∀ d ∈ tables_1, d.before a0 Z = true) : (Jvm.Cond.static ({ cls := "java/lang/StringUTF16", name := "getChar", desc := "([BI)C" } : Jvm.MethodName)).before a0 Z = true := hw _ (List.mem_of_getElem? (i := 99) rfl)
theorem w_100 {a0 : Array Value} {Z : State} (hw : ∀ d ∈ tables_1, d.before a0 Z = true) : (Jvm.Cond.code ({ cls := "java/lang/StringUTF16", name := "getChar", desc := "([BI)C" } : Jvm.MethodName) jdk_52_method_5_code (2 : Nat) (Option.some Jvm.ClassFile.FieldType.char)).before a0 Z = true := hw _ (List.mem_of_getElem? (i := 100) rfl)
theorem w_101 {a0 : Array Value} {Z : State} (hw : ∀ d ∈ tables_1, d.before a0 Z = true) : (Jvm.Cond.stringLink "java/lang/String" (7 : Nat) "").before a0 Z = true := hw _ (List.mem_of_getElem? (i := 101) rfl)
theorem w_104 {a0 : Array Value} {Z : State} (hw : ∀ d ∈ tables_1, d.before a0 Z = true) : (Jvm.Cond.methodLink "java/lang/String" (498 : Nat) ({ cls := "java/lang/StringUTF16", name := "charAt", desc := "([BI)C" } : Jvm.MethodName)).before a0 Z = true := hw _ (List.mem_of_getElem? (i := 104) rfl)
theorem w_105 {a0 : Array Value} {Z : State} (hw : ∀ d ∈ tables_1, d.before a0 Z = true) : (Jvm.Cond.static ({ cls := "java/lang/StringUTF16", name := "charAt", desc := "([BI)C" } : Jvm.MethodName)).before a0 Z = true := hw _ (List.mem_of_getElem? (i := 105) rfl)
theorem w_106 {a0 : Array Value} {Z : State} (hw : ∀ d ∈ tables_1, d.before a0 Z = true) : (Jvm.Cond.code ({ cls := "java/lang/StringUTF16", name := "charAt", desc := "([BI)C" } : Jvm.MethodName) jdk_52_method_83_code (2 : Nat) (Option.some Jvm.ClassFile.FieldType.char)).before a0 Z = true := hw _ (List.mem_of_getElem? (i := 106) rfl)
theorem w_107 {a0 : Array Value} {Z : State} (hw : ∀ d ∈ tables_1, d.before a0 Z = true) : (Jvm.Cond.methodLink "java/lang/StringUTF16" (67 : Nat) ({ cls := "java/lang/StringUTF16", name := "checkIndex", desc := "(I[B)V" } : Jvm.MethodName)).before a0 Z = true := hw _ (List.mem_of_getElem? (i := 107) rfl)
theorem w_108 {a0 : Array Value} {Z : State} (hw : ∀ d ∈ tables_1, d.before a0 Z = true) : (Jvm.Cond.static ({ cls := "java/lang/StringUTF16", name := "checkIndex", desc := "(I[B)V" } : Jvm.MethodName)).before a0 Z = true := hw _ (List.mem_of_getElem? (i := 108) rfl)
theorem w_109 {a0 : Array Value} {Z : State} (hw : ∀ d ∈ tables_1, d.before a0 Z = true) : (Jvm.Cond.code ({ cls := "java/lang/StringUTF16", name := "checkIndex", desc := "(I[B)V" } : Jvm.MethodName) jdk_52_method_91_code (2 : Nat) (Option.none : Option Jvm.ClassFile.FieldType)).before a0 Z = true := hw _ (List.mem_of_getElem? (i := 109) rfl)
theorem w_110 {a0 : Array Value} {Z : State} (hw : ∀ d ∈ tables_1, d.before a0 Z = true) : (Jvm.Cond.methodLink "java/lang/StringUTF16" (48 : Nat) ({ cls := "java/lang/StringUTF16", name := "length", desc := "([B)I" } : Jvm.MethodName)).before a0 Z = true := hw _ (List.mem_of_getElem? (i := 110) rfl)
theorem w_111 {a0 : Array Value} {Z : State} (hw : ∀ d ∈ tables_1, d.before a0 Z = true) : (Jvm.Cond.static ({ cls := "java/lang/StringUTF16", name := "length", desc := "([B)I" } : Jvm.MethodName)).before a0 Z = true := hw _ (List.mem_of_getElem? (i := 111) rfl)
theorem w_112 {a0 : Array Value} {Z : State} (hw : ∀ d ∈ tables_1, d.before a0 Z = true) : (Jvm.Cond.code ({ cls := "java/lang/StringUTF16", name := "length", desc := "([B)I" } : Jvm.MethodName) jdk_52_method_6_code (1 : Nat) (Option.some Jvm.ClassFile.FieldType.int)).before a0 Z = true := hw _ (List.mem_of_getElem? (i := 112) rfl)
theorem w_113 {a0 : Array Value} {Z : State} (hw : ∀ d ∈ tables_1, d.before a0 Z = true) : (Jvm.Cond.methodLink "java/lang/StringUTF16" (414 : Nat) ({ cls := "java/lang/String", name := "checkIndex", desc := "(II)V" } : Jvm.MethodName)).before a0 Z = true := hw _ (List.mem_of_getElem? (i := 113) rfl)
theorem w_114 {a0 : Array Value} {Z : State} (hw : ∀ d ∈ tables_1, d.before a0 Z = true) : (Jvm.Cond.methodLink "com/example/crossgate/crossgate/AgentToken" (61 : Nat) ({ cls := "java/lang/String", name := "substring", desc := "(II)Ljava/lang/String;" } : Jvm.MethodName)).before a0 Z = true := hw _ (List.mem_of_getElem? (i := 114) rfl)
theorem w_115 {a0 : Array Value} {Z : State} (hw : ∀ d ∈ tables_1, d.before a0 Z = true) : (Jvm.Cond.declares ({ cls := "java/lang/String", name := "substring", desc := "(II)Ljava/lang/String;" } : Jvm.MethodName)).before a0 Z = true := hw _ (List.mem_of_getElem? (i := 115) rfl)
theorem w_116 {a0 : Array Value} {Z : State} (hw : ∀ d ∈ tables_1, d.before a0 Z = true) : (Jvm.Cond.instanceMethod ({ cls := "java/lang/String", name := "substring", desc := "(II)Ljava/lang/String;" } : Jvm.MethodName)).before a0 Z = true := hw _ (List.mem_of_getElem? (i := 116) rfl)
theorem w_117 {a0 : Array Value} {Z : State} (hw : ∀ d ∈ tables_1, d.before a0 Z = true) : (Jvm.Cond.selects "java/lang/String" ({ cls := "java/lang/String", name := "substring", desc := "(II)Ljava/lang/String;" } : Jvm.MethodName) ({ cls := "java/lang/String", name := "substring", desc := "(II)Ljava/lang/String;" } : Jvm.MethodName)).before a0 Z = true := hw _ (List.mem_of_getElem? (i := 117) rfl)
theorem w_118 {a0 : Array Value} {Z : State} (hw : ∀ d ∈ tables_1, d.before a0 Z = true) : (Jvm.Cond.code ({ cls := "java/lang/String", name := "substring", desc := "(II)Ljava/lang/String;" } : Jvm.MethodName) jdk_42_method_92_code (5 : Nat) (Option.some (Jvm.ClassFile.FieldType.object "java/lang/String"))).before a0 Z = true := hw _ (List.mem_of_getElem? (i := 118) rfl)
theorem w_119 {a0 : Array Value} {Z : State} (hw : ∀ d ∈ tables_1, d.before a0 Z = true) : (Jvm.Cond.methodLink "java/lang/String" (505 : Nat) ({ cls := "java/lang/String", name := "length", desc := "()I" } : Jvm.MethodName)).before a0 Z = true := hw _ (List.mem_of_getElem? (i := 119) rfl)
theorem w_120 {a0 : Array Value} {Z : State} (hw : ∀ d ∈ tables_1, d.before a0 Z = true) : (Jvm.Cond.methodLink "java/lang/String" (521 : Nat) ({ cls := "java/lang/String", name := "checkBoundsBeginEnd", desc := "(III)V" } : Jvm.MethodName)).before a0 Z = true := hw _ (List.mem_of_getElem? (i := 120) rfl)
theorem w_121 {a0 : Array Value} {Z : State} (hw : ∀ d ∈ tables_1, d.before a0 Z = true) : (Jvm.Cond.static ({ cls := "java/lang/String", name := "checkBoundsBeginEnd", desc := "(III)V" } : Jvm.MethodName)).before a0 Z = true := hw _ (List.mem_of_getElem? (i := 121) rfl)
theorem w_122 {a0 : Array Value} {Z : State} (hw : ∀ d ∈ tables_1, d.before a0 Z = true) : (Jvm.Cond.code ({ cls := "java/lang/String", name := "checkBoundsBeginEnd", desc := "(III)V" } : Jvm.MethodName) jdk_42_method_158_code (3 : Nat) (Option.none : Option Jvm.ClassFile.FieldType)).before a0 Z = true := hw _ (List.mem_of_getElem? (i := 122) rfl)
theorem w_123 {a0 : Array Value} {Z : State} (hw : ∀ d ∈ tables_1, d.before a0 Z = true) : (Jvm.Cond.methodLink "java/lang/String" (1062 : Nat) ({ cls := "jdk/internal/util/Preconditions", name := "checkFromToIndex", desc := "(IIILjava/util/function/BiFunction;)I" } : Jvm.MethodName)).before a0 Z = true := hw _ (List.mem_of_getElem? (i := 123) rfl)
theorem w_124 {a0 : Array Value} {Z : State} (hw : ∀ d ∈ tables_1, d.before a0 Z = true) : (Jvm.Cond.static ({ cls := "jdk/internal/util/Preconditions", name := "checkFromToIndex", desc := "(IIILjava/util/function/BiFunction;)I" } : Jvm.MethodName)).before a0 Z = true := hw _ (List.mem_of_getElem? (i := 124) rfl)
theorem w_125 {a0 : Array Value} {Z : State} (hw : ∀ d ∈ tables_1, d.before a0 Z = true) : (Jvm.Cond.code ({ cls := "jdk/internal/util/Preconditions", name := "checkFromToIndex", desc := "(IIILjava/util/function/BiFunction;)I" } : Jvm.MethodName) jdk_41_method_12_code (4 : Nat) (Option.some Jvm.ClassFile.FieldType.int)).before a0 Z = true := hw _ (List.mem_of_getElem? (i := 125) rfl)
theorem w_126 {a0 : Array Value} {Z : State} (hw : ∀ d ∈ tables_1, d.before a0 Z = true) : (Jvm.Cond.methodLink "java/lang/String" (689 : Nat) ({ cls := "java/lang/StringUTF16", name := "newString", desc := "([BII)Ljava/lang/String;" } : Jvm.MethodName)).before a0 Z = true := hw _ (List.mem_of_getElem? (i := 126) rfl)
theorem w_127 {a0 : Array Value} {Z : State} (hw : ∀ d ∈ tables_1, d.before a0 Z = true) : (Jvm.Cond.static ({ cls := "java/lang/StringUTF16", name := "newString", desc := "([BII)Ljava/lang/String;" } : Jvm.MethodName)).before a0 Z = true := hw _ (List.mem_of_getElem? (i := 127) rfl)
theorem w_128 {a0 : Array Value} {Z : State} (hw : ∀ d ∈ tables_1, d.before a0 Z = true) : (Jvm.Cond.code ({ cls := "java/lang/StringUTF16", name := "newString", desc := "([BII)Ljava/lang/String;" } : Jvm.MethodName) jdk_52_method_69_code (5 : Nat) (Option.some (Jvm.ClassFile.FieldType.object "java/lang/String"))).before a0 Z = true := hw _ (List.mem_of_getElem? (i := 128) rfl)
theorem w_129 {a0 : Array Value} {Z : State} (hw : ∀ d ∈ tables_1, d.before a0 Z = true) : (Jvm.Cond.fieldLink "java/lang/StringUTF16" (251 : Nat) "java/lang/String" "COMPACT_STRINGS" "Z").before a0 Z = true := hw _ (List.mem_of_getElem? (i := 129) rfl)
theorem w_130 {a0 : Array Value} {Z : State} (hw : ∀ d ∈ tables_1, d.before a0 Z = true) : (Jvm.Cond.methodLink "java/lang/StringUTF16" (257 : Nat) ({ cls := "java/lang/StringUTF16", name := "compress", desc := "([BII)[B" } : Jvm.MethodName)).before a0 Z = true := hw _ (List.mem_of_getElem? (i := 130) rfl)
theorem w_131 {a0 : Array Value} {Z : State} (hw : ∀ d ∈ tables_1, d.before a0 Z = true) : (Jvm.Cond.static ({ cls := "java/lang/StringUTF16", name := "compress", desc := "([BII)[B" } : Jvm.MethodName)).before a0 Z = true := hw _ (List.mem_of_getElem? (i := 131) rfl)
theorem w_132 {a0 : Array Value} {Z : State} (hw : ∀ d ∈ tables_1, d.before a0 Z = true) : (Jvm.Cond.code ({ cls := "java/lang/StringUTF16", name := "compress", desc := "([BII)[B" } : Jvm.MethodName) jdk_52_method_17_code (6 : Nat) (Option.some (Jvm.ClassFile.FieldType.array Jvm.ClassFile.FieldType.byte))).before a0 Z = true := hw _ (List.mem_of_getElem? (i := 132) rfl)
theorem w_133 {a0 : Array Value} {Z : State} (hw : ∀ d ∈ tables_1, d.before a0 Z = true) : (Jvm.Cond.methodLink "java/lang/StringUTF16" (123 : Nat) ({ cls := "java/lang/StringUTF16", name := "compress", desc := "([BI[BII)I" } : Jvm.MethodName)).before a0 Z = true := hw _ (List.mem_of_getElem? (i := 133) rfl)
theorem w_134 {a0 : Array Value} {Z : State} (hw : ∀ d ∈ tables_1, d.before a0 Z = true) : (Jvm.Cond.static ({ cls := "java/lang/StringUTF16", name := "compress", desc := "([BI[BII)I" } : Jvm.MethodName)).before a0 Z = true := hw _ (List.mem_of_getElem? (i := 134) rfl)
theorem w_135 {a0 : Array Value} {Z : State} (hw : ∀ d ∈ tables_1, d.before a0 Z = true) : (Jvm.Cond.code ({ cls := "java/lang/StringUTF16", name := "compress", desc := "([BI[BII)I" } : Jvm.MethodName) jdk_52_method_22_code (7 : Nat) (Option.some Jvm.ClassFile.FieldType.int)).before a0 Z = true := hw _ (List.mem_of_getElem? (i := 135) rfl)
theorem w_136 {a0 : Array Value} {Z : State} (hw : ∀ d ∈ tables_1, d.before a0 Z = true) : (Jvm.Cond.methodLink "java/lang/StringUTF16" (173 : Nat) ({ cls := "java/lang/StringUTF16", name := "checkBoundsOffCount", desc := "(II[B)V" } : Jvm.MethodName)).before a0 Z = true := hw _ (List.mem_of_getElem? (i := 136) rfl)
theorem w_137 {a0 : Array Value} {Z : State} (hw : ∀ d ∈ tables_1, d.before a0 Z = true) : (Jvm.Cond.static ({ cls := "java/lang/StringUTF16", name := "checkBoundsOffCount", desc := "(II[B)V" } : Jvm.MethodName)).before a0 Z = true := hw _ (List.mem_of_getElem? (i := 137) rfl)
theorem w_138 {a0 : Array Value} {Z : State} (hw : ∀ d ∈ tables_1, d.before a0 Z = true) : (Jvm.Cond.code ({ cls := "java/lang/StringUTF16", name := "checkBoundsOffCount", desc := "(II[B)V" } : Jvm.MethodName) jdk_52_method_94_code (3 : Nat) (Option.none : Option Jvm.ClassFile.FieldType)).before a0 Z = true := hw _ (List.mem_of_getElem? (i := 138) rfl)
theorem w_139 {a0 : Array Value} {Z : State} (hw : ∀ d ∈ tables_1, d.before a0 Z = true) : (Jvm.Cond.methodLink "java/lang/StringUTF16" (419 : Nat) ({ cls := "java/lang/String", name := "checkBoundsOffCount", desc := "(III)I" } : Jvm.MethodName)).before a0 Z = true := hw _ (List.mem_of_getElem? (i := 139) rfl)
theorem w_140 {a0 : Array Value} {Z : State} (hw : ∀ d ∈ tables_1, d.before a0 Z = true) : (Jvm.Cond.static ({ cls := "java/lang/String", name := "checkBoundsOffCount", desc := "(III)I" } : Jvm.MethodName)).before a0 Z = true := hw _ (List.mem_of_getElem? (i := 140) rfl)
theorem w_141 {a0 : Array Value} {Z : State} (hw : ∀ d ∈ tables_1, d.before a0 Z = true) : (Jvm.Cond.code ({ cls := "java/lang/String", name := "checkBoundsOffCount", desc := "(III)I" } : Jvm.MethodName) jdk_42_method_157_code (3 : Nat) (Option.some Jvm.ClassFile.FieldType.int)).before a0 Z = true := hw _ (List.mem_of_getElem? (i := 141) rfl)
theorem w_142 {a0 : Array Value} {Z : State} (hw : ∀ d ∈ tables_1, d.before a0 Z = true) : (Jvm.Cond.methodLink "java/lang/String" (1065 : Nat) ({ cls := "jdk/internal/util/Preconditions", name := "checkFromIndexSize", desc := "(IIILjava/util/function/BiFunction;)I" } : Jvm.MethodName)).before a0 Z = true := hw _ (List.mem_of_getElem? (i := 142) rfl)
theorem w_143 {a0 : Array Value} {Z : State} (hw : ∀ d ∈ tables_1, d.before a0 Z = true) : (Jvm.Cond.static ({ cls := "jdk/internal/util/Preconditions", name := "checkFromIndexSize", desc := "(IIILjava/util/function/BiFunction;)I" } : Jvm.MethodName)).before a0 Z = true := hw _ (List.mem_of_getElem? (i := 143) rfl)
theorem w_144 {a0 : Array Value} {Z : State} (hw : ∀ d ∈ tables_1, d.before a0 Z = true) : (Jvm.Cond.code ({ cls := "jdk/internal/util/Preconditions", name := "checkFromIndexSize", desc := "(IIILjava/util/function/BiFunction;)I" } : Jvm.MethodName) jdk_41_method_13_code (4 : Nat) (Option.some Jvm.ClassFile.FieldType.int)).before a0 Z = true := hw _ (List.mem_of_getElem? (i := 144) rfl)
theorem w_145 {a0 : Array Value} {Z : State} (hw : ∀ d ∈ tables_1, d.before a0 Z = true) : (Jvm.Cond.methodLink "java/lang/StringUTF16" (126 : Nat) ({ cls := "java/util/Arrays", name := "copyOfRange", desc := "([BII)[B" } : Jvm.MethodName)).before a0 Z = true := hw _ (List.mem_of_getElem? (i := 145) rfl)
theorem w_146 {a0 : Array Value} {Z : State} (hw : ∀ d ∈ tables_1, d.before a0 Z = true) : (Jvm.Cond.static ({ cls := "java/util/Arrays", name := "copyOfRange", desc := "([BII)[B" } : Jvm.MethodName)).before a0 Z = true := hw _ (List.mem_of_getElem? (i := 146) rfl)
theorem w_147 {a0 : Array Value} {Z : State} (hw : ∀ d ∈ tables_1, d.before a0 Z = true) : (Jvm.Cond.initialized "java/util/Arrays").before a0 Z = true := hw _ (List.mem_of_getElem? (i := 147) rfl)
theorem w_148 {a0 : Array Value} {Z : State} (hw : ∀ d ∈ tables_1, d.before a0 Z = true) : (Jvm.Cond.code ({ cls := "java/util/Arrays", name := "copyOfRange", desc := "([BII)[B" } : Jvm.MethodName) jdk_65_method_132_code (3 : Nat) (Option.some (Jvm.ClassFile.FieldType.array Jvm.ClassFile.FieldType.byte))).before a0 Z = true := hw _ (List.mem_of_getElem? (i := 148) rfl)
theorem w_149 {a0 : Array Value} {Z : State} (hw : ∀ d ∈ tables_1, d.before a0 Z = true) : (Jvm.Cond.methodLink "java/util/Arrays" (339 : Nat) ({ cls := "java/util/Arrays", name := "copyOfRangeByte", desc := "([BII)[B" } : Jvm.MethodName)).before a0 Z = true := hw _ (List.mem_of_getElem? (i := 149) rfl)
theorem w_150 {a0 : Array Value} {Z : State} (hw : ∀ d ∈ tables_1, d.before a0 Z = true) : (Jvm.Cond.static ({ cls := "java/util/Arrays", name := "copyOfRangeByte", desc := "([BII)[B" } : Jvm.MethodName)).before a0 Z = true := hw _ (List.mem_of_getElem? (i := 150) rfl)
theorem w_151 {a0 : Array Value} {Z : State} (hw : ∀ d ∈ tables_1, d.before a0 Z = true) : (Jvm.Cond.code ({ cls := "java/util/Arrays", name := "copyOfRangeByte", desc := "([BII)[B" } : Jvm.MethodName) jdk_65_method_133_code (5 : Nat) (Option.some (Jvm.ClassFile.FieldType.array Jvm.ClassFile.FieldType.byte))).before a0 Z = true := hw _ (List.mem_of_getElem? (i := 151) rfl)
theorem w_152 {a0 : Array Value} {Z : State} (hw : ∀ d ∈ tables_1, d.before a0 Z = true) : (Jvm.Cond.methodLink "java/util/Arrays" (343 : Nat) ({ cls := "java/util/Arrays", name := "checkLength", desc := "(II)V" } : Jvm.MethodName)).before a0 Z = true := hw _ (List.mem_of_getElem? (i := 152) rfl)
theorem w_153 {a0 : Array Value} {Z : State} (hw : ∀ d ∈ tables_1, d.before a0 Z = true) : (Jvm.Cond.static ({ cls := "java/util/Arrays", name := "checkLength", desc := "(II)V" } : Jvm.MethodName)).before a0 Z = true := hw _ (List.mem_of_getElem? (i := 153) rfl)
theorem w_154 {a0 : Array Value} {Z : State} (hw : ∀ d ∈ tables_1, d.before a0 Z = true) : (Jvm.Cond.code ({ cls := "java/util/Arrays", name := "checkLength", desc := "(II)V" } : Jvm.MethodName) jdk_65_method_131_code (2 : Nat) (Option.none : Option Jvm.ClassFile.FieldType)).before a0 Z = true := hw _ (List.mem_of_getElem? (i := 154) rfl)
theorem w_155 {a0 : Array Value} {Z : State} (hw : ∀ d ∈ tables_1, d.before a0 Z = true) : (Jvm.Cond.methodLink "java/util/Arrays" (304 : Nat) ({ cls := "java/lang/Math", name := "min", desc := "(II)I" } : Jvm.MethodName)).before a0 Z = true := hw _ (List.mem_of_getElem? (i := 155) rfl)
theorem w_156 {a0 : Array Value} {Z : State} (hw : ∀ d ∈ tables_1, d.before a0 Z = true) : (Jvm.Cond.static ({ cls := "java/lang/Math", name := "min", desc := "(II)I" } : Jvm.MethodName)).before a0 Z = true := hw _ (List.mem_of_getElem? (i := 156) rfl)
theorem w_157 {a0 : Array Value} {Z : State} (hw : ∀ d ∈ tables_1, d.before a0 Z = true) : (Jvm.Cond.initialized "java/lang/Math").before a0 Z = true := hw _ (List.mem_of_getElem? (i := 157) rfl)
theorem w_158 {a0 : Array Value} {Z : State} (hw : ∀ d ∈ tables_1, d.before a0 Z = true) : (Jvm.Cond.code ({ cls := "java/lang/Math", name := "min", desc := "(II)I" } : Jvm.MethodName) jdk_29_method_69_code (2 : Nat) (Option.some Jvm.ClassFile.FieldType.int)).before a0 Z = true := hw _ (List.mem_of_getElem? (i := 158) rfl)
theorem w_159 {a0 : Array Value} {Z : State} (hw : ∀ d ∈ tables_1, d.before a0 Z = true) : (Jvm.Cond.methodLink "java/util/Arrays" (150 : Nat) ({ cls := "java/lang/System", name := "arraycopy", desc := "(Ljava/lang/Object;ILjava/lang/Object;II)V" } : Jvm.MethodName)).before a0 Z = true := hw _ (List.mem_of_getElem? (i := 159) rfl)
theorem w_160 {a0 : Array Value} {Z : State} (hw : ∀ d ∈ tables_1, d.before a0 Z = true) : (Jvm.Cond.static ({ cls := "java/lang/System", name := "arraycopy", desc := "(Ljava/lang/Object;ILjava/lang/Object;II)V" } : Jvm.MethodName)).before a0 Z = true := hw _ (List.mem_of_getElem? (i := 160) rfl)
theorem w_161 {a0 : Array Value} {Z : State} (hw : ∀ d ∈ tables_1, d.before a0 Z = true) : (Jvm.Cond.initialized "java/lang/System").before a0 Z = true := hw _ (List.mem_of_getElem? (i := 161) rfl)
theorem w_162 {a0 : Array Value} {Z : State} (hw : ∀ d ∈ tables_1, d.before a0 Z = true) : (Jvm.Cond.native ({ cls := "java/lang/System", name := "arraycopy", desc := "(Ljava/lang/Object;ILjava/lang/Object;II)V" } : Jvm.MethodName)).before a0 Z = true := hw _ (List.mem_of_getElem? (i := 162) rfl)
theorem w_163 {a0 : Array Value} {Z : State} (hw : ∀ d ∈ tables_1, d.before a0 Z = true) : (Jvm.Cond.methodLink "java/lang/StringUTF16" (259 : Nat) ({ cls := "java/lang/StringUTF16", name := "coderFromArrayLen", desc := "([BI)B" } : Jvm.MethodName)).before a0 Z = true := hw _ (List.mem_of_getElem? (i := 163) rfl)
theorem w_164 {a0 : Array Value} {Z : State} (hw : ∀ d ∈ tables_1, d.before a0 Z = true) : (Jvm.Cond.classLink "java/lang/StringUTF16" (3 : Nat) "java/lang/String").before a0 Z = true := hw _ (List.mem_of_getElem? (i := 164) rfl)
theorem w_165 {a0 : Array Value} {Z : State} (hw : ∀ d ∈ tables_1, d.before a0 Z = true) : (Jvm.Cond.methodLink "java/lang/StringUTF16" (263 : Nat) ({ cls := "java/lang/String", name := "<init>", desc := "([BB)V" } : Jvm.MethodName)).before a0 Z = true := hw _ (List.mem_of_getElem? (i := 165) rfl)
theorem w_166 {a0 : Array Value} {Z : State} (hw : ∀ d ∈ tables_1, d.before a0 Z = true) : (Jvm.Cond.instanceMethod ({ cls := "java/lang/String", name := "<init>", desc := "([BB)V" } : Jvm.MethodName)).before a0 Z = true := hw _ (List.mem_of_getElem? (i := 166) rfl)
theorem w_167 {a0 : Array Value} {Z : State} (hw : ∀ d ∈ tables_1, d.before a0 Z = true) : (Jvm.Cond.code ({ cls := "java/lang/String", name := "<init>", desc := "([BB)V" } : Jvm.MethodName) jdk_42_method_151_code (3 : Nat) (Option.none : Option Jvm.ClassFile.FieldType)).before a0 Z = true := hw _ (List.mem_of_getElem? (i := 167) rfl)
theorem w_168 {a0 : Array Value} {Z : State} (hw : ∀ d ∈ tables_1, d.before a0 Z = true) : (Jvm.Cond.methodLink "com/example/crossgate/crossgate/AgentToken" (65 : Nat) ({ cls := "java/util/Optional", name := "of", desc := "(Ljava/lang/Object;)Ljava/util/Optional;" } : Jvm.MethodName)).before a0 Z = true := hw _ (List.mem_of_getElem? (i := 168) rfl)
theorem w_169 {a0 : Array Value} {Z : State} (hw : ∀ d ∈ tables_1, d.before a0 Z = true) : (Jvm.Cond.static ({ cls := "java/util/Optional", name := "of", desc := "(Ljava/lang/Object;)Ljava/util/Optional;" } : Jvm.MethodName)).before a0 Z = true := hw _ (List.mem_of_getElem? (i := 169) rfl)
theorem w_170 {a0 : Array Value} {Z : State} (hw : ∀ d ∈ tables_1, d.before a0 Z = true) : (Jvm.Cond.code ({ cls := "java/util/Optional", name := "of", desc := "(Ljava/lang/Object;)Ljava/util/Optional;" } : Jvm.MethodName) jdk_32_method_3_code (1 : Nat) (Option.some (Jvm.ClassFile.FieldType.object "java/util/Optional"))).before a0 Z = true := hw _ (List.mem_of_getElem? (i := 170) rfl)
theorem w_171 {a0 : Array Value} {Z : State} (hw : ∀ d ∈ tables_1, d.before a0 Z = true) : (Jvm.Cond.classLink "java/util/Optional" (2 : Nat) "java/util/Optional").before a0 Z = true := hw _ (List.mem_of_getElem? (i := 171) rfl)
theorem w_172 {a0 : Array Value} {Z : State} (hw : ∀ d ∈ tables_1, d.before a0 Z = true) : (Jvm.Cond.instantiable "java/util/Optional" (1 : Nat)).before a0 Z = true := hw _ (List.mem_of_getElem? (i := 172) rfl)
theorem w_173 {a0 : Array Value} {Z : State} (hw : ∀ d ∈ tables_1, d.before a0 Z = true) : (Jvm.Cond.methodLink "java/util/Optional" (17 : Nat) ({ cls := "java/util/Objects", name := "requireNonNull", desc := "(Ljava/lang/Object;)Ljava/lang/Object;" } : Jvm.MethodName)).before a0 Z = true := hw _ (List.mem_of_getElem? (i := 173) rfl)
theorem w_174 {a0 : Array Value} {Z : State} (hw : ∀ d ∈ tables_1, d.before a0 Z = true) : (Jvm.Cond.static ({ cls := "java/util/Objects", name := "requireNonNull", desc := "(Ljava/lang/Object;)Ljava/lang/Object;" } : Jvm.MethodName)).before a0 Z = true := hw _ (List.mem_of_getElem? (i := 174) rfl)
theorem w_175 {a0 : Array Value} {Z : State} (hw : ∀ d ∈ tables_1, d.before a0 Z = true) : (Jvm.Cond.initialized "java/util/Objects").before a0 Z = true := hw _ (List.mem_of_getElem? (i := 175) rfl)
theorem w_176 {a0 : Array Value} {Z : State} (hw : ∀ d ∈ tables_1, d.before a0 Z = true) : (Jvm.Cond.code ({ cls := "java/util/Objects", name := "requireNonNull", desc := "(Ljava/lang/Object;)Ljava/lang/Object;" } : Jvm.MethodName) jdk_31_method_10_code (1 : Nat) (Option.some (Jvm.ClassFile.FieldType.object "java/lang/Object"))).before a0 Z = true := hw _ (List.mem_of_getElem? (i := 176) rfl)
theorem w_177 {a0 : Array Value} {Z : State} (hw : ∀ d ∈ tables_1, d.before a0 Z = true) : (Jvm.Cond.methodLink "java/util/Optional" (23 : Nat) ({ cls := "java/util/Optional", name := "<init>", desc := "(Ljava/lang/Object;)V" } : Jvm.MethodName)).before a0 Z = true := hw _ (List.mem_of_getElem? (i := 177) rfl)
theorem w_178 {a0 : Array Value} {Z : State} (hw : ∀ d ∈ tables_1, d.before a0 Z = true) : (Jvm.Cond.instanceMethod ({ cls := "java/util/Optional", name := "<init>", desc := "(Ljava/lang/Object;)V" } : Jvm.MethodName)).before a0 Z = true := hw _ (List.mem_of_getElem? (i := 178) rfl)
theorem w_180 {a0 : Array Value} {Z : State} (hw : ∀ d ∈ tables_1, d.before a0 Z = true) : (Jvm.Cond.code ({ cls := "java/util/Optional", name := "<init>", desc := "(Ljava/lang/Object;)V" } : Jvm.MethodName) jdk_32_method_2_code (2 : Nat) (Option.none : Option Jvm.ClassFile.FieldType)).before a0 Z = true := hw _ (List.mem_of_getElem? (i := 180) rfl)
theorem w_181 {a0 : Array Value} {Z : State} (hw : ∀ d ∈ tables_1, d.before a0 Z = true) : (Jvm.Cond.methodLink "java/util/Optional" (7 : Nat) ({ cls := "java/lang/Object", name := "<init>", desc := "()V" } : Jvm.MethodName)).before a0 Z = true := hw _ (List.mem_of_getElem? (i := 181) rfl)
theorem w_182 {a0 : Array Value} {Z : State} (hw : ∀ d ∈ tables_1, d.before a0 Z = true) : (Jvm.Cond.methodLink "com/example/crossgate/crossgate/AgentTokenHandleInPinLaw" (30 : Nat) ({ cls := "java/util/Optional", name := "get", desc := "()Ljava/lang/Object;" } : Jvm.MethodName)).before a0 Z = true := hw _ (List.mem_of_getElem? (i := 182) rfl)
theorem w_183 {a0 : Array Value} {Z : State} (hw : ∀ d ∈ tables_1, d.before a0 Z = true) : (Jvm.Cond.declares ({ cls := "java/util/Optional", name := "get", desc := "()Ljava/lang/Object;" } : Jvm.MethodName)).before a0 Z = true := hw _ (List.mem_of_getElem? (i := 183) rfl)
theorem w_184 {a0 : Array Value} {Z : State} (hw : ∀ d ∈ tables_1, d.before a0 Z = true) : (Jvm.Cond.instanceMethod ({ cls := "java/util/Optional", name := "get", desc := "()Ljava/lang/Object;" } : Jvm.MethodName)).before a0 Z = true := hw _ (List.mem_of_getElem? (i := 184) rfl)
theorem w_185 {a0 : Array Value} {Z : State} (hw : ∀ d ∈ tables_1, d.before a0 Z = true) : (Jvm.Cond.selects "java/util/Optional" ({ cls := "java/util/Optional", name := "get", desc := "()Ljava/lang/Object;" } : Jvm.MethodName) ({ cls := "java/util/Optional", name := "get", desc := "()Ljava/lang/Object;" } : Jvm.MethodName)).before a0 Z = true := hw _ (List.mem_of_getElem? (i := 185) rfl)
theorem w_186 {a0 : Array Value} {Z : State} (hw : ∀ d ∈ tables_1, d.before a0 Z = true) : (Jvm.Cond.code ({ cls := "java/util/Optional", name := "get", desc := "()Ljava/lang/Object;" } : Jvm.MethodName) jdk_32_method_5_code (1 : Nat) (Option.some (Jvm.ClassFile.FieldType.object "java/lang/Object"))).before a0 Z = true := hw _ (List.mem_of_getElem? (i := 186) rfl)
theorem w_187 {a0 : Array Value} {Z : State} (hw : ∀ d ∈ tables_1, d.before a0 Z = true) : (Jvm.Cond.methodLink "com/example/crossgate/crossgate/AgentTokenHandleInPinLaw" (34 : Nat) ({ cls := "java/lang/String", name := "equals", desc := "(Ljava/lang/Object;)Z" } : Jvm.MethodName)).before a0 Z = true := hw _ (List.mem_of_getElem? (i := 187) rfl)
theorem w_188 {a0 : Array Value} {Z : State} (hw : ∀ d ∈ tables_1, d.before a0 Z = true) : (Jvm.Cond.declares ({ cls := "java/lang/String", name := "equals", desc := "(Ljava/lang/Object;)Z" } : Jvm.MethodName)).before a0 Z = true := hw _ (List.mem_of_getElem? (i := 188) rfl)
theorem w_189 {a0 : Array Value} {Z : State} (hw : ∀ d ∈ tables_1, d.before a0 Z = true) : (Jvm.Cond.instanceMethod ({ cls := "java/lang/String", name := "equals", desc := "(Ljava/lang/Object;)Z" } : Jvm.MethodName)).before a0 Z = true := hw _ (List.mem_of_getElem? (i := 189) rfl)
theorem w_190 {a0 : Array Value} {Z : State} (hw : ∀ d ∈ tables_1, d.before a0 Z = true) : (Jvm.Cond.selects "java/lang/String" ({ cls := "java/lang/String", name := "equals", desc := "(Ljava/lang/Object;)Z" } : Jvm.MethodName) ({ cls := "java/lang/String", name := "equals", desc := "(Ljava/lang/Object;)Z" } : Jvm.MethodName)).before a0 Z = true := hw _ (List.mem_of_getElem? (i := 190) rfl)
theorem w_191 {a0 : Array Value} {Z : State} (hw : ∀ d ∈ tables_1, d.before a0 Z = true) : (Jvm.Cond.code ({ cls := "java/lang/String", name := "equals", desc := "(Ljava/lang/Object;)Z" } : Jvm.MethodName) jdk_42_method_66_code (3 : Nat) (Option.some Jvm.ClassFile.FieldType.boolean)).before a0 Z = true := hw _ (List.mem_of_getElem? (i := 191) rfl)
theorem w_192 {a0 : Array Value} {Z : State} (hw : ∀ d ∈ tables_1, d.before a0 Z = true) : (Jvm.Cond.classLink "java/lang/String" (10 : Nat) "java/lang/String").before a0 Z = true := hw _ (List.mem_of_getElem? (i := 192) rfl)
theorem w_193 {a0 : Array Value} {Z : State} (hw : ∀ d ∈ tables_1, d.before a0 Z = true) : (Jvm.Cond.methodLink "java/lang/String" (541 : Nat) ({ cls := "java/lang/StringLatin1", name := "equals", desc := "([B[B)Z" } : Jvm.MethodName)).before a0 Z = true := hw _ (List.mem_of_getElem? (i := 193) rfl)
theorem w_194 {a0 : Array Value} {Z : State} (hw : ∀ d ∈ tables_1, d.before a0 Z = true) : (Jvm.Cond.static ({ cls := "java/lang/StringLatin1", name := "equals", desc := "([B[B)Z" } : Jvm.MethodName)).before a0 Z = true := hw _ (List.mem_of_getElem? (i := 194) rfl)
theorem w_195 {a0 : Array Value} {Z : State} (hw : ∀ d ∈ tables_1, d.before a0 Z = true) : (Jvm.Cond.code ({ cls := "java/lang/StringLatin1", name := "equals", desc := "([B[B)Z" } : Jvm.MethodName) jdk_43_method_13_code (3 : Nat) (Option.some Jvm.ClassFile.FieldType.boolean)).before a0 Z = true := hw _ (List.mem_of_getElem? (i := 195) rfl)
theorem w_196 {a0 : Array Value} {Z : State} (hw : ∀ d ∈ tables_1, d.before a0 Z = true) : (Jvm.Cond.methodLink "java/lang/String" (685 : Nat) ({ cls := "java/lang/StringLatin1", name := "newString", desc := "([BII)Ljava/lang/String;" } : Jvm.MethodName)).before a0 Z = true := hw _ (List.mem_of_getElem? (i := 196) rfl)
theorem w_197 {a0 : Array Value} {Z : State} (hw : ∀ d ∈ tables_1, d.before a0 Z = true) : (Jvm.Cond.static ({ cls := "java/lang/StringLatin1", name := "newString", desc := "([BII)Ljava/lang/String;" } : Jvm.MethodName)).before a0 Z = true := hw _ (List.mem_of_getElem? (i := 197) rfl)
theorem w_198 {a0 : Array Value} {Z : State} (hw : ∀ d ∈ tables_1, d.before a0 Z = true) : (Jvm.Cond.code ({ cls := "java/lang/StringLatin1", name := "newString", desc := "([BII)Ljava/lang/String;" } : Jvm.MethodName) jdk_43_method_47_code (3 : Nat) (Option.some (Jvm.ClassFile.FieldType.object "java/lang/String"))).before a0 Z = true := hw _ (List.mem_of_getElem? (i := 198) rfl)
theorem w_199 {a0 : Array Value} {Z : State} (hw : ∀ d ∈ tables_1, d.before a0 Z = true) : (Jvm.Cond.classLink "java/lang/StringLatin1" (1 : Nat) "java/lang/String").before a0 Z = true := hw _ (List.mem_of_getElem? (i := 199) rfl)
theorem w_200 {a0 : Array Value} {Z : State} (hw : ∀ d ∈ tables_1, d.before a0 Z = true) : (Jvm.Cond.methodLink "java/lang/StringLatin1" (232 : Nat) ({ cls := "java/util/Arrays", name := "copyOfRange", desc := "([BII)[B" } : Jvm.MethodName)).before a0 Z = true := hw _ (List.mem_of_getElem? (i := 200) rfl)
theorem w_201 {a0 : Array Value} {Z : State} (hw : ∀ d ∈ tables_1, d.before a0 Z = true) : (Jvm.Cond.methodLink "java/lang/StringLatin1" (112 : Nat) ({ cls := "java/lang/String", name := "<init>", desc := "([BB)V" } : Jvm.MethodName)).before a0 Z = true := hw _ (List.mem_of_getElem? (i := 201) rfl)
theorem own_wS {a0 : Array Value} {Z : State} (hw : ∀ d ∈ tables_1, d.before a0 Z = true) : ∀ a ∈ Bundle.stringAtoms, a.before a0 Z = true := fun a ha => hw a ((by decide +kernel : ∀ a ∈ Bundle.stringAtoms, a ∈ tables_1) a ha)
theorem own_eq_int {args : Array Value} {s : State} {t : Term} {k : Int32} (h : (Jvm.Cond.eq t (Jvm.Term.int k)).value args s none s [] = some true) : t.eval args s none [] s = some (.int k) := by
  simp only [Cond.value, Term.int_eval] at h
  cases ht : t.eval args s none [] s with
  | none => simp [ht] at h
  | some v =>
    cases v <;> simp [ht] at h
    subst h; rfl
theorem own_len_start {args : Array Value} {s : State} {t : Term} {a : Addr} {c : Cell} {ty : FieldType} {k : Int32} (ev : t.eval args s none [] s = some (.ref a)) (A : Arr s s.heap a c ty) (h : (Jvm.Cond.eq (Jvm.Term.length t) (Jvm.Term.int k)).value args s none s [] = some true) : c.slots.size < 2 ^ 31 ∧ c.slots.size.toInt32 = k := by
  have q := own_eq_int h
  have e := A.fin (Vm.Alike.refl _)
  simp only [Term.eval, ev, Option.bind_eq_bind, Option.bind_some, e] at q
  split at q
  · rename_i hh
    exact ⟨hh, by simpa using q⟩
  · cases q
theorem own_elem_start {args : Array Value} {s : State} {t : Term} {a : Addr} {c : Cell} {ty : FieldType} {i : Int32} {v : Value} (ev : t.eval args s none [] s = some (.ref a)) (A : Arr s s.heap a c ty) (h : (Jvm.Term.elem t (Jvm.Term.int i)).eval args s none [] s = some v) : c.slots[i.toNatClampNeg]? = some v := by
  obtain ⟨a', j, c', e1, e2, e3, -, e5⟩ := Term.elem_spec h
  cases ev.symm.trans e1
  cases (A.fin (Vm.Alike.refl _)).symm.trans e3
  have e2' : (Jvm.Term.int i).eval args s none [] s = some (.int i) := Term.int_eval _
  cases e2'.symm.trans e2
  exact e5
theorem own_field_start {args : Array Value} {s : State} {t : Term} {a : Addr} {C n d : String} {v : Value} (ev : t.eval args s none [] s = some (.ref a)) (h : (Jvm.Term.field t C n d).eval args s none [] s = some v) : Fld s s.heap a C n d v := Fld.start (by simpa [Term.eval, ev] using h)
theorem own_ref_start {args : Array Value} {s : State} {a b : Term} {y : Value} (h : (Jvm.Cond.eq a b).value args s none s [] = some true) (hb : b.eval args s none [] s = some y) (hy : y.isRef = true) : a.eval args s none [] s = some y := Cond.eq_refs (by simp only [Cond.holds, h]; rfl) hb hy
theorem own_fits_ref {C : String} {v : Value} (h : v.isRef = true) : fits (.object C) v = true := by cases v <;> simp [Value.isRef] at h <;> rfl
theorem own_cat_ref {v : Value} (h : v.isRef = true) : v.category = 1 := by cases v <;> simp [Value.isRef] at h <;> rfl
theorem own_ins_keep {Z : State} {h h' : Heap} {a : Addr} {C : String} {ws : List Addr} (F : Ins Z h a C true) (K : Keep h h' ws) : Ins Z h' a C true := by
  obtain ⟨cell, cT, h1, h2, h3⟩ := F
  obtain ⟨c', q1, q2, q3, -⟩ := K.2.2 a cell h1
  exact ⟨c', cT, q1, h2, by rw [q2, q3]; exact h3⟩
def EL : List (String × Nat) := [("java/lang/String", 7)]
theorem hEL {a0 : Array Value} {Z : State} (hw : ∀ d ∈ tables_1, d.before a0 Z = true) : EW Z a0 EL := (EW.cons (w_101 hw) (by decide) EW.nil)
theorem own_ELsub : ∀ q ∈ EL, q ∈ consts_1 := by decide
def Gl (Z : State) (zc : Int32) (fm : Value) (em : Nat) : Prop := (Sta Z Z.heap "java/lang/String" "COMPACT_STRINGS" "Z" (.int zc)) ∧ (¬ zc = 0) ∧ (Sta Z Z.heap "jdk/internal/util/Preconditions" "SIOOBE_FORMATTER" "Ljava/util/function/BiFunction;" fm) ∧ (fm.isRef = true) ∧ (Sta Z Z.heap "java/lang/StringUTF16" "$assertionsDisabled" "Z" (.int (1 : Int32))) ∧ (Sta Z Z.heap "java/lang/StringUTF16" "HI_BYTE_SHIFT" "I" (.int (0 : Int32))) ∧ (Sta Z Z.heap "java/lang/StringUTF16" "LO_BYTE_SHIFT" "I" (.int (8 : Int32))) ∧ (Sta Z Z.heap "java/util/Optional" "EMPTY" "Ljava/util/Optional;" (.ref em)) ∧ (Exa Z Z.heap em "java/util/Optional") ∧ (Fld Z Z.heap em "java/util/Optional" "value" "Ljava/lang/Object;" .null)
set_option maxRecDepth 65536 in
set_option maxHeartbeats 40000000 in
theorem own_cmp5 (l : Launch) (Z : State) (a0 : Array Value) (hw : ∀ d ∈ tables_1, d.before a0 Z = true) {zc : Int32} {fm : Value} {em : Nat}  (G : Gl Z zc fm em) (n0 : Nat) (h0 : Heap) (O0 : Old Z n0 h0) (b : Nat) (d : Nat) (kb : ClassId) (kd : ClassId) (z : Int32) (cs : List Int32) (vs : List Value) (hne : b ≠ d) (hz : z = Int32.ofNat cs.length) (hn : cs.length < 2147483648) (hv : vs.length = cs.length) (gw0 : n0 ≤ d) (q0 : Arv Z h0 b kb .char z (cs.map Value.int) (.int 0)) (q1 : Arv Z h0 d kd .byte z vs (.int (0 : Int32))) :
    MetF l [] Z n0 (⟨"java/lang/StringUTF16", "compress", "([CI[BII)I"⟩ : MethodName) jdk_52_method_21_code 7 (Option.some FieldType.int) ({ frames := 0, cells := 0, slots := 0, locals := 0 } : Room) #[(.ref b), (.int (0 : Int32)), (.ref d), (.int (0 : Int32)), (.int z)] h0 [d] (fun r h' => ∃ w, r = some w ∧ w = (.int (Int32.ofNat (own_fst cs))) ∧ (Arv Z h' d kd .byte z ((cs.take (own_fst cs)).map own_lo ++ vs.drop (own_fst cs)) (.int (0 : Int32)))) := by
  refine metF (plainFor_of_name pn_0) O0 (Ls := #[.val (.ref b), .val (.int (0 : Int32)), .val (.ref d), .val (.int (0 : Int32)), .val (.int z), .unset, .unset]) (fun m => by first | rfl | (simp [entryFrame, mkF, argsToLocals, Value.category]; done)) ?_
  intro p e s m below meth c T0 X0
  have K0_h0 := Keep.refl h0 [d]
  have n0le := X0.n0le
  have ltq0 := own_n q0.lt
  have ltq1 := own_n q1.lt
  obtain ⟨G_cs, G_zc, G_fm, isref_fm, G_assertionsDisabled, G_HI_BYTE_SHIFT, G_LO_BYTE_SHIFT, GS_em, GE_em, GF_em⟩ := id G
  have oz := X0.old.1
  have ltz0 := own_n GE_em.lt
  have hfl := own_fst_le cs
  have hlt0 := hn
  have loop : ∀ (n i : Nat) (T : State) (h : Heap) (L : List Loc) (s6 : Slot), n = own_fst cs - i → i ≤ own_fst cs → One s6 → WP p l e ({ frames := 0, cells := 0, slots := 0, locals := 0 } : Room) s m #[(.ref b), (.int (0 : Int32)), (.ref d), (.int (0 : Int32)), (.int z)] below meth c Z "java/lang/StringUTF16" "compress" jdk_52_method_21_code 7 (Option.some FieldType.int) n0 (fun _ => True) (fun _ _ => True) T h L 0 0 → Keep h0 h [d] → Arv Z h b kb .char z (cs.map Value.int) (.int 0) → Arv Z h d kd .byte z ((cs.take i).map own_lo ++ vs.drop i) (.int (0 : Int32)) → Run p.tables e below (PF s below n0 h0 [d] (fun r h' => ∃ w, r = some w ∧ w = (.int (Int32.ofNat (own_fst cs))) ∧ (Arv Z h' d kd .byte z ((cs.take (own_fst cs)).map own_lo ++ vs.drop (own_fst cs)) (.int (0 : Int32)))) ({ frames := 0, cells := 0, slots := 0, locals := 0 } : Room).cells ({ frames := 0, cells := 0, slots := 0, locals := 0 } : Room).slots) T (mkF m 3 #[.val (.ref b), .val (.int (Int32.ofNat i)), .val (.ref d), .val (.int (Int32.ofNat i)), .val (.int z), .val (.int (Int32.ofNat i)), s6] []) := by
    intro n
    induction n with
    | zero =>
      intro i T h L s6 hni hij h6 X K Vb Vd
      have hi : i = own_fst cs := by omega
      subst hi
      have lb := own_n Vb.lt
      have ld := own_n Vd.lt
      have lh0 := K.1
      have lb0 := own_n q0.lt
      have ld0 := own_n q1.lt
      have nle := X.n0le
      by_cases hc1 : own_fst cs < cs.length
      · have hlt := own_lt hc1 hn
        rw [← hz] at hlt
        refine k_iload X d_jdk_52_21_3 rfl (pc' := 5) rfl ?_
        refine k_iload X d_jdk_52_21_5 rfl (pc' := 7) rfl ?_
        refine k_icmpNo X d_jdk_52_21_7 (tlt hlt).2.1 (pc' := 10) rfl ?_
        refine k_aloadN X d_jdk_52_21_10 rfl rfl (pc' := 11) rfl ?_
        refine k_iloadN X d_jdk_52_21_11 rfl (pc' := 12) rfl ?_
        refine k_caload X d_jdk_52_21_12 Vb (own_nn (by omega)) hlt (v := (.int (cs.getD (own_fst cs) 0))) (own_getc' cs (by omega)) (pc' := 13) rfl ?_
        refine k_istore X d_jdk_52_21_13 (Ls' := #[.val (.ref b), .val (.int (Int32.ofNat (own_fst cs))), .val (.ref d), .val (.int (Int32.ofNat (own_fst cs))), .val (.int z), .val (.int (Int32.ofNat (own_fst cs))), .val (.int (cs.getD (own_fst cs) 0))]) (own_store h6 ⟨_, rfl⟩) (pc' := 15) rfl ?_
        refine k_iload X d_jdk_52_21_15 rfl (pc' := 17) rfl ?_
        refine k_sipush X d_jdk_52_21_17 (w := (255 : Int32)) rfl (pc' := 20) rfl ?_
        refine k_icmpNo X d_jdk_52_21_20 (tlt (own_fst_hi cs hc1)).2.2.2 (pc' := 23) rfl ?_
        refine k_iload X d_jdk_52_21_23 rfl (pc' := 25) rfl ?_
        exact k_retFI X d_jdk_52_21_25 rfl K ⟨_, rfl, rfl, Vd⟩ (by decide) (by decide)
      · have he : own_fst cs = cs.length := by omega
        have hnl : ¬ (Int32.ofNat (own_fst cs) < z) := by rw [he, ← hz]; exact Int32.lt_irrefl
        refine k_iload X d_jdk_52_21_3 rfl (pc' := 5) rfl ?_
        refine k_iload X d_jdk_52_21_5 rfl (pc' := 7) rfl ?_
        refine k_icmpYes X d_jdk_52_21_7 (flt hnl).2.1 (pc' := 44) (by decide) (by decide) ?_
        refine k_iload X d_jdk_52_21_44 rfl (pc' := 46) rfl ?_
        exact k_retFI X d_jdk_52_21_46 rfl K ⟨_, rfl, by rw [he, ← hz], Vd⟩ (by decide) (by decide)
    | succ n ih =>
      intro i T h L s6 hni hij h6 X K Vb Vd
      have hi : i < own_fst cs := by omega
      have hlt := own_lt (show i < cs.length by omega) hn
      rw [← hz] at hlt
      have hle := own_fst_lo cs i hi
      have lb := own_n Vb.lt
      have ld := own_n Vd.lt
      have lh0 := K.1
      have lb0 := own_n q0.lt
      have ld0 := own_n q1.lt
      have nle := X.n0le
      refine k_iload X d_jdk_52_21_3 rfl (pc' := 5) rfl ?_
      refine k_iload X d_jdk_52_21_5 rfl (pc' := 7) rfl ?_
      refine k_icmpNo X d_jdk_52_21_7 (tlt hlt).2.1 (pc' := 10) rfl ?_
      refine k_aloadN X d_jdk_52_21_10 rfl rfl (pc' := 11) rfl ?_
      refine k_iloadN X d_jdk_52_21_11 rfl (pc' := 12) rfl ?_
      refine k_caload X d_jdk_52_21_12 Vb (own_nn (by omega)) hlt (v := (.int (cs.getD i 0))) (own_getc' cs (by omega)) (pc' := 13) rfl ?_
      refine k_istore X d_jdk_52_21_13 (Ls' := #[.val (.ref b), .val (.int (Int32.ofNat i)), .val (.ref d), .val (.int (Int32.ofNat i)), .val (.int z), .val (.int (Int32.ofNat i)), .val (.int (cs.getD i 0))]) (own_store h6 ⟨_, rfl⟩) (pc' := 15) rfl ?_
      refine k_iload X d_jdk_52_21_15 rfl (pc' := 17) rfl ?_
      refine k_sipush X d_jdk_52_21_17 (w := (255 : Int32)) rfl (pc' := 20) rfl ?_
      refine k_icmpYes X d_jdk_52_21_20 (flt hle).2.2.2 (pc' := 26) (by decide) (by decide) ?_
      refine k_aloadN X d_jdk_52_21_26 rfl rfl (pc' := 27) rfl ?_
      refine k_iloadN X d_jdk_52_21_27 rfl (pc' := 28) rfl ?_
      refine k_iload X d_jdk_52_21_28 rfl (pc' := 30) rfl ?_
      refine k_i2b X d_jdk_52_21_30 (w := ((cs.getD i 0).toInt8.toInt32)) rfl (pc' := 31) rfl ?_
      have ge3 : n0 ≤ d := by omega
      refine k_bastore X (w := ((cs.getD i 0).toInt8.toInt32)) (i) d_jdk_52_21_31 Vd (own_nn (by omega)) hlt (own_clamp (by omega)) (by simp; omega) (own_i2b _) (vs' := ((cs.take (i + 1)).map own_lo ++ vs.drop (i + 1))) (own_turn cs vs i (by omega) hv) trivial ge3 (pc' := 32) rfl fun T2 h2 L2 X2 K2 V2 => ?_
      have sz_h2 := K2.1
      have K0_h2 : Keep h0 h2 [d] := K.trans K2 (allS (Or.inl (List.mem_of_getElem? (i := 0) rfl)) all0)
      refine k_iinc X2 d_jdk_52_21_32 rfl (w := (Int32.ofNat (i + 1))) (own_succ i) (Ls' := #[.val (.ref b), .val (.int (Int32.ofNat (i + 1))), .val (.ref d), .val (.int (Int32.ofNat i)), .val (.int z), .val (.int (Int32.ofNat i)), .val (.int (cs.getD i 0))]) rfl (pc' := 35) rfl ?_
      refine k_iinc X2 d_jdk_52_21_35 rfl (w := (Int32.ofNat (i + 1))) (own_succ i) (Ls' := #[.val (.ref b), .val (.int (Int32.ofNat (i + 1))), .val (.ref d), .val (.int (Int32.ofNat (i + 1))), .val (.int z), .val (.int (Int32.ofNat i)), .val (.int (cs.getD i 0))]) rfl (pc' := 38) rfl ?_
      refine k_iinc X2 d_jdk_52_21_38 rfl (w := (Int32.ofNat (i + 1))) (own_succ i) (Ls' := #[.val (.ref b), .val (.int (Int32.ofNat (i + 1))), .val (.ref d), .val (.int (Int32.ofNat (i + 1))), .val (.int z), .val (.int (Int32.ofNat (i + 1))), .val (.int (cs.getD i 0))]) rfl (pc' := 41) rfl ?_
      refine k_goto X2 d_jdk_52_21_41 (pc' := 3) (by decide) (by decide) ?_
      have c4 := (Vb.keep K2 (ninS (own_ne (by omega) : b ≠ d) nin0))
      exact ih (i + 1) _ _ _ _ (by omega) (by omega) (One.val rfl) X2 K0_h2 c4 V2
  refine k_iconst X0 d_jdk_52_21_0 (w := (0 : Int32)) rfl (pc' := 1) rfl ?_
  refine k_istore X0 d_jdk_52_21_1 (Ls' := #[.val (.ref b), .val (.int (0 : Int32)), .val (.ref d), .val (.int (0 : Int32)), .val (.int z), .val (.int (0 : Int32)), .unset]) rfl (pc' := 3) rfl ?_
  exact loop _ 0 _ _ _ _ rfl (by omega) One.u X0 K0_h0 q0 (by simpa using q1)
set_option maxRecDepth 65536 in
set_option maxHeartbeats 40000000 in
theorem own_cmp3L (l : Launch) (Z : State) (a0 : Array Value) (hw : ∀ d ∈ tables_1, d.before a0 Z = true) {zc : Int32} {fm : Value} {em : Nat}  (G : Gl Z zc fm em) (n0 : Nat) (h0 : Heap) (O0 : Old Z n0 h0) (b : Nat) (kb : ClassId) (z : Int32) (cs : List Int32) (hz : z = Int32.ofNat cs.length) (hn : cs.length ≤ 88) (hall : ∀ c ∈ cs, ¬ 255 < c)  (q0 : Arv Z h0 b kb .char z (cs.map Value.int) (.int 0)) :
    MetF l [] Z n0 (⟨"java/lang/StringUTF16", "compress", "([CII)[B"⟩ : MethodName) jdk_52_method_16_code 6 (Option.some (FieldType.array FieldType.byte)) ({ frames := 1, cells := 1, slots := 88, locals := 18 } : Room) #[(.ref b), (.int (0 : Int32)), (.int z)] h0 [] (fun r h' => ∃ w, r = some w ∧ ∃ (t : Nat), ∃ (kt : ClassId), w = (.ref t) ∧ (Arv Z h' t kt .byte z (own_lat cs) (.int (0 : Int32))) ∧ (h0.size ≤ t)) := by
  refine metF (plainFor_of_name pn_0) O0 (Ls := #[.val (.ref b), .val (.int (0 : Int32)), .val (.int z), .unset, .unset, .unset]) (fun m => by first | rfl | (simp [entryFrame, mkF, argsToLocals, Value.category]; done)) ?_
  intro p e s m below meth c T0 X0
  have K0_h0 := Keep.refl h0 []
  have n0le := X0.n0le
  have ltq0 := own_n q0.lt
  obtain ⟨G_cs, G_zc, G_fm, isref_fm, G_assertionsDisabled, G_HI_BYTE_SHIFT, G_LO_BYTE_SHIFT, GS_em, GE_em, GF_em⟩ := id G
  have oz := X0.old.1
  have ltz0 := own_n GE_em.lt
  have hf := own_fst_all cs hall
  have hnz : ¬ z < 0 := by rw [hz]; exact own_nn (by omega)
  have hcl : z.toNatClampNeg = cs.length := by rw [hz]; exact own_clamp (by omega)
  refine k_iloadN X0 d_jdk_52_16_0 rfl (pc' := 1) rfl ?_
  refine k_newP X0 d_jdk_52_16_1 (w_23 hw) hnz (cap := 88) (by omega) (by decide) (by decide) (by decide) (pc' := 3) rfl fun T5 h5 b5 k5 g5 X5 K5 V5 S5 lt5 ge5 => ?_
  have sz_h5 := K5.1
  have K0_h5 : Keep h0 h5 [] := K0_h0.trans K5 all0
  have Vp : Arv Z h5 b5 k5 .byte z (List.replicate cs.length (.int (0 : Int32))) (.int (0 : Int32)) := Arv.pad V5 (fun i => by simpa using pad_rep [] (.int (0 : Int32)) cs.length i)
  refine k_astoreN X5 d_jdk_52_16_3 rfl (Ls' := #[.val (.ref b), .val (.int (0 : Int32)), .val (.int z), .val (.ref b5), .unset, .unset]) rfl (pc' := 4) rfl ?_
  refine k_aloadN X5 d_jdk_52_16_4 rfl rfl (pc' := 5) rfl ?_
  refine k_iloadN X5 d_jdk_52_16_5 rfl (pc' := 6) rfl ?_
  refine k_aloadN X5 d_jdk_52_16_6 rfl rfl (pc' := 7) rfl ?_
  refine k_iconst X5 d_jdk_52_16_7 (w := (0 : Int32)) rfl (pc' := 8) rfl ?_
  refine k_iloadN X5 d_jdk_52_16_8 rfl (pc' := 9) rfl ?_
  have c6 := (q0.keep K5 nin0)
  have ge7 : n0 ≤ b5 := by omega
  refine k_callSVF X5 (y := (⟨"java/lang/StringUTF16", "compress", "([CI[BII)I"⟩ : MethodName)) d_jdk_52_16_9 (w_24 hw) (w_25 hw) (w_21 hw) (w_26 hw) (by decide) (argsL := [(.ref b), (.int (0 : Int32)), (.ref b5), (.int (0 : Int32)), (.int z)]) (rest := []) (own_cmp5 l Z a0 hw G n0 h5 X5.old b b5 kb k5 z cs (List.replicate cs.length (.int (0 : Int32))) (by omega) hz (by omega) (by simp) (by omega) c6 Vp) rfl pd_0 rfl rfl (by decide) (W := 0) (Nat.le_of_eq rfl) (by decide) (by decide) (by decide) (allS ⟨trivial, ge7⟩ all0) (pc' := 12) rfl ?_
  rintro _ T8 h8 L8 X8 K8 ⟨rfl, q8_0⟩
  have sz_h8 := K8.1
  have K0_h8 : Keep h0 h8 [] := K0_h5.trans K8 (allS (Or.inr (by omega)) all0)
  have lt8_0 := own_n q8_0.lt
  refine k_istore X8 d_jdk_52_16_12 (Ls' := #[.val (.ref b), .val (.int (0 : Int32)), .val (.int z), .val (.ref b5), .val (.int (Int32.ofNat (own_fst cs))), .unset]) rfl (pc' := 14) rfl ?_
  refine k_iload X8 d_jdk_52_16_14 rfl (pc' := 16) rfl ?_
  refine k_iloadN X8 d_jdk_52_16_16 rfl (pc' := 17) rfl ?_
  have hz2 : Int32.ofNat (own_fst cs) = z := by rw [hf, ← hz]
  refine k_icmpYes X8 d_jdk_52_16_17 (teq hz2).1 (pc' := 57) (by decide) (by decide) ?_
  refine k_aloadN X8 d_jdk_52_16_57 rfl rfl (pc' := 58) rfl ?_
  have Vl : Arv Z h8 b5 k5 .byte z (own_lat cs) (.int (0 : Int32)) := by simpa [hf, own_lat] using q8_0
  exact k_retFA X8 d_jdk_52_16_58 rfl rfl rfl rfl K0_h8 ⟨_, rfl, _, _, rfl, Vl, by omega⟩ (by decide) (by decide)
set_option maxRecDepth 65536 in
set_option maxHeartbeats 40000000 in
theorem own_codL (l : Launch) (Z : State) (a0 : Array Value) (hw : ∀ d ∈ tables_1, d.before a0 Z = true) {zc : Int32} {fm : Value} {em : Nat}  (G : Gl Z zc fm em) (n0 : Nat) (h0 : Heap) (O0 : Old Z n0 h0) (d : Nat) (k : ClassId) (z : Int32) (bs : List Value) (dv : Value)  (q0 : Arv Z h0 d k .byte z bs dv) :
    MetF l [] Z n0 (⟨"java/lang/StringUTF16", "coderFromArrayLen", "([BI)B"⟩ : MethodName) jdk_52_method_15_code 2 (Option.some FieldType.byte) ({ frames := 0, cells := 0, slots := 0, locals := 0 } : Room) #[(.ref d), (.int z)] h0 [] (fun r h' => ∃ w, r = some w ∧ w = (.int (0 : Int32)) ∧ True) := by
  refine metF (plainFor_of_name pn_0) O0 (Ls := #[.val (.ref d), .val (.int z)]) (fun m => by first | rfl | (simp [entryFrame, mkF, argsToLocals, Value.category]; done)) ?_
  intro p e s m below meth c T0 X0
  have K0_h0 := Keep.refl h0 []
  have n0le := X0.n0le
  have ltq0 := own_n q0.lt
  obtain ⟨G_cs, G_zc, G_fm, isref_fm, G_assertionsDisabled, G_HI_BYTE_SHIFT, G_LO_BYTE_SHIFT, GS_em, GE_em, GF_em⟩ := id G
  have oz := X0.old.1
  have ltz0 := own_n GE_em.lt
  refine k_iloadN X0 d_jdk_52_15_0 rfl (pc' := 1) rfl ?_
  refine k_aloadN X0 d_jdk_52_15_1 rfl rfl (pc' := 2) rfl ?_
  refine k_arlen X0 d_jdk_52_15_2 q0 (pc' := 3) rfl ?_
  refine k_isub X0 d_jdk_52_15_3 (w := (0 : Int32)) (Int32.sub_self z) (pc' := 4) rfl ?_
  refine k_bipush X0 d_jdk_52_15_4 (w := (31 : Int32)) rfl (pc' := 6) rfl ?_
  refine k_iushr X0 d_jdk_52_15_6 (w := (0 : Int32)) (by decide) (pc' := 7) rfl ?_
  refine k_i2b X0 d_jdk_52_15_7 (w := (0 : Int32)) (by decide) (pc' := 8) rfl ?_
  exact k_retFN X0 (w := (0 : Int32)) d_jdk_52_15_8 (t := .byte) rfl (by simp) rfl K0_h0 ⟨_, rfl, rfl, trivial⟩ (by decide) (by decide)
set_option maxRecDepth 65536 in
set_option maxHeartbeats 40000000 in
theorem own_init4L (l : Launch) (Z : State) (a0 : Array Value) (hw : ∀ d ∈ tables_1, d.before a0 Z = true) {zc : Int32} {fm : Value} {em : Nat}  (G : Gl Z zc fm em) (n0 : Nat) (h0 : Heap) (O0 : Old Z n0 h0) (a : Nat) (b : Nat) (kb : ClassId) (z : Int32) (cs : List Int32) (hz : z = Int32.ofNat cs.length) (h1 : 0 < cs.length) (hn : cs.length ≤ 88) (hall : ∀ c ∈ cs, ¬ 255 < c) (gw0 : n0 ≤ a) (q0 : Exa Z h0 a "java/lang/String") (q1 : Fld Z h0 a "java/lang/String" "value" "[B" .null) (q2 : Fld Z h0 a "java/lang/String" "coder" "B" (.int (0 : Int32))) (q3 : Arv Z h0 b kb .char z (cs.map Value.int) (.int 0)) :
    MetF l [] Z n0 (⟨"java/lang/String", "<init>", "([CIILjava/lang/Void;)V"⟩ : MethodName) jdk_42_method_149_code 6 (Option.none : Option FieldType) ({ frames := 2, cells := 1, slots := 88, locals := 35 } : Room) #[(.ref a), (.ref b), (.int (0 : Int32)), (.int z), .null] h0 [a] (fun r h' => r = none ∧ ∃ (t : Nat), ∃ (kt : ClassId), (Exa Z h' a "java/lang/String") ∧ (Fld Z h' a "java/lang/String" "coder" "B" (.int (0 : Int32))) ∧ (Fld Z h' a "java/lang/String" "value" "[B" (.ref t)) ∧ (Arv Z h' t kt .byte z (own_lat cs) (.int (0 : Int32))) ∧ (h0.size ≤ t)) := by
  refine metF (plainFor_of_name pn_1) O0 (Ls := #[.val (.ref a), .val (.ref b), .val (.int (0 : Int32)), .val (.int z), .val .null, .unset]) (fun m => by first | rfl | (simp [entryFrame, mkF, argsToLocals, Value.category]; done)) ?_
  intro p e s m below meth c T0 X0
  have K0_h0 := Keep.refl h0 [a]
  have n0le := X0.n0le
  have ltq0 := own_n q0.lt
  have ltq1 := own_n q1.lt
  have ltq2 := own_n q2.lt
  have ltq3 := own_n q3.lt
  obtain ⟨G_cs, G_zc, G_fm, isref_fm, G_assertionsDisabled, G_HI_BYTE_SHIFT, G_LO_BYTE_SHIFT, GS_em, GE_em, GF_em⟩ := id G
  have oz := X0.old.1
  have ltz0 := own_n GE_em.lt
  have hnz0 : ¬ z = 0 := by rw [hz]; exact own_nz h1 (by omega)
  refine k_aloadN X0 d_jdk_42_149_0 rfl rfl (pc' := 1) rfl ?_
  refine k_initO X0 d_jdk_42_149_1 (w_15 hw) (w_16 hw) (w_17 hw) rfl (by decide) (W := 0) (Nat.le_of_eq rfl) (by decide) (pc' := 4) rfl fun T10 X11 => ?_
  refine k_iloadN X11 d_jdk_42_149_4 rfl (pc' := 5) rfl ?_
  refine k_ifYes X11 d_jdk_42_149_5 ((if0 _ _).trans (feq hnz0).2) (pc' := 27) (by decide) (by decide) ?_
  refine k_getS X11 d_jdk_42_149_27 (host := "") (Or.inl (w_18 hw)) Via.refl (G_cs.ext X11.old.2) (pc' := 30) rfl fun T12 X13 => ?_
  refine k_ifNo X13 d_jdk_42_149_30 ((if0 _ _).trans (feq G_zc).1) (pc' := 33) rfl ?_
  refine k_aloadN X13 d_jdk_42_149_33 rfl rfl (pc' := 34) rfl ?_
  refine k_iloadN X13 d_jdk_42_149_34 rfl (pc' := 35) rfl ?_
  refine k_iloadN X13 d_jdk_42_149_35 rfl (pc' := 36) rfl ?_
  refine k_callSVF X13 (y := (⟨"java/lang/StringUTF16", "compress", "([CII)[B"⟩ : MethodName)) d_jdk_42_149_36 (w_19 hw) (w_20 hw) (w_21 hw) (w_22 hw) (by decide) (argsL := [(.ref b), (.int (0 : Int32)), (.int z)]) (rest := []) (own_cmp3L l Z a0 hw G n0 h0 X13.old b kb z cs hz (by omega) hall q3) rfl pd_1 rfl rfl (by decide) (W := 0) (Nat.le_of_eq rfl) (by decide) (by decide) (by decide) all0 (pc' := 39) rfl ?_
  rintro _ T16 h16 L16 X16 K16 ⟨t_14, kt_15, rfl, q16_0, q16_1⟩
  have sz_h16 := K16.1
  have K0_h16 : Keep h0 h16 [a] := K0_h0.trans K16 all0
  have lt16_0 := own_n q16_0.lt
  refine k_astore X16 d_jdk_42_149_39 rfl (Ls' := #[.val (.ref a), .val (.ref b), .val (.int (0 : Int32)), .val (.int z), .val .null, .val (.ref t_14)]) rfl (pc' := 41) rfl ?_
  refine k_aloadN X16 d_jdk_42_149_41 rfl rfl (pc' := 42) rfl ?_
  refine k_aload X16 d_jdk_42_149_42 rfl rfl (pc' := 44) rfl ?_
  refine k_iloadN X16 d_jdk_42_149_44 rfl (pc' := 45) rfl ?_
  refine k_callSVF X16 (y := (⟨"java/lang/StringUTF16", "coderFromArrayLen", "([BI)B"⟩ : MethodName)) d_jdk_42_149_45 (w_27 hw) (w_28 hw) (w_21 hw) (w_29 hw) (by decide) (argsL := [(.ref t_14), (.int z)]) (rest := [(.ref a)]) (own_codL l Z a0 hw G n0 h16 X16.old t_14 kt_15 z (own_lat cs) (.int (0 : Int32)) q16_0) rfl pd_2 rfl rfl (by decide) (W := 1) (Nat.le_of_eq rfl) (by decide) (by decide) (by decide) all0 (pc' := 48) rfl ?_
  rintro _ T18 h18 L18 X18 K18 ⟨rfl, -⟩
  have sz_h18 := K18.1
  have K0_h18 : Keep h0 h18 [a] := K0_h16.trans K18 all0
  have c20 := ((q2.keep K16 nin0).keep K18 nin0)
  have c21 := ((q0.keep K16).keep K18)
  have ge23 : n0 ≤ a := by omega
  refine k_putF X18 d_jdk_42_149_48 (host := "") (Or.inl (w_30 hw)) Via.refl c20 c21 (Or.inr ⟨(w_31 hw), rfl, X18.hnm⟩) (w_6 hw) (ty := .byte) (by decide) rfl rfl trivial ge23 (pc' := 51) rfl fun T22 h22 L22 X22 W22 K22 => ?_
  have sz_h22 := K22.1
  have K0_h22 : Keep h0 h22 [a] := K0_h18.trans K22 (allS (Or.inl (List.mem_of_getElem? (i := 0) rfl)) all0)
  have F22 := c20.same W22
  refine k_aloadN X22 d_jdk_42_149_51 rfl rfl (pc' := 52) rfl ?_
  refine k_aload X22 d_jdk_42_149_52 rfl rfl (pc' := 54) rfl ?_
  have c24 := (((q1.keep K16 nin0).keep K18 nin0).other W22 (Or.inr (slot_ne (Or.inr (w_33 hw)) (Or.inr (w_31 hw)) (by decide) (t := (.array .byte)) (t' := .byte) (by decide) (by decide))))
  have c25 := (c21.keep K22)
  have ge27 : n0 ≤ a := by omega
  refine k_putF X22 d_jdk_42_149_54 (host := "") (Or.inl (w_32 hw)) Via.refl c24 c25 (Or.inr ⟨(w_33 hw), rfl, X22.hnm⟩) (w_6 hw) (ty := (.array .byte)) (by decide) rfl rfl trivial ge27 (pc' := 57) rfl fun T26 h26 L26 X26 W26 K26 => ?_
  have sz_h26 := K26.1
  have K0_h26 : Keep h0 h26 [a] := K0_h22.trans K26 (allS (Or.inl (List.mem_of_getElem? (i := 0) rfl)) all0)
  have F26 := c24.same W26
  have c28 := (c25.keep K26)
  have c29 := (F22.other W26 (Or.inr (slot_ne (Or.inr (w_31 hw)) (Or.inr (w_33 hw)) (by decide) (t := .byte) (t' := (.array .byte)) (by decide) (by decide))))
  have c30 := (((q16_0.keep K18 nin0).keep K22 (ninS (own_ne (by omega) : t_14 ≠ a) nin0)).keep K26 (ninS (own_ne (by omega) : t_14 ≠ a) nin0))
  exact k_retFV X26 d_jdk_42_149_57 rfl K0_h26 ⟨rfl, _, _, c28, c29, F26, c30, by omega⟩ (by decide) (by decide)
set_option maxRecDepth 65536 in
set_option maxHeartbeats 40000000 in
theorem own_putC (l : Launch) (Z : State) (a0 : Array Value) (hw : ∀ d ∈ tables_1, d.before a0 Z = true) {zc : Int32} {fm : Value} {em : Nat}  (G : Gl Z zc fm em) (n0 : Nat) (h0 : Heap) (O0 : Old Z n0 h0) (d : Nat) (kd : ClassId) (zz : Int32) (vs : List Value) (i : Nat) (c0 : Int32) (hi : 2 * i + 1 < vs.length) (hzz : zz = Int32.ofNat vs.length) (hb0 : vs.length < 2147483648) (gw0 : n0 ≤ d) (q0 : Arv Z h0 d kd .byte zz vs (.int (0 : Int32))) :
    MetF l [] Z n0 (⟨"java/lang/StringUTF16", "putChar", "([BII)V"⟩ : MethodName) jdk_52_method_4_code 3 (Option.none : Option FieldType) ({ frames := 0, cells := 0, slots := 0, locals := 0 } : Room) #[(.ref d), (.int (Int32.ofNat i)), (.int c0)] h0 [d] (fun r h' => r = none ∧ (Arv Z h' d kd .byte zz ((vs.set (2 * i) (own_lo c0)).set (2 * i + 1) (own_hi c0)) (.int (0 : Int32)))) := by
  refine metF (plainFor_of_name pn_0) O0 (Ls := #[.val (.ref d), .val (.int (Int32.ofNat i)), .val (.int c0)]) (fun m => by first | rfl | (simp [entryFrame, mkF, argsToLocals, Value.category]; done)) ?_
  intro p e s m below meth c T0 X0
  have K0_h0 := Keep.refl h0 [d]
  have n0le := X0.n0le
  have ltq0 := own_n q0.lt
  obtain ⟨G_cs, G_zc, G_fm, isref_fm, G_assertionsDisabled, G_HI_BYTE_SHIFT, G_LO_BYTE_SHIFT, GS_em, GE_em, GF_em⟩ := id G
  have oz := X0.old.1
  have ltz0 := own_n GE_em.lt
  have l1 := own_lt (show 2 * i < vs.length by omega) hb0
  have l2 := own_lt hi hb0
  rw [← hzz] at l1 l2
  refine k_getS X0 d_jdk_52_4_0 (host := "") (Or.inl (w_95 hw)) Via.refl (G_assertionsDisabled.ext X0.old.2) (pc' := 3) rfl fun T31 X32 => ?_
  refine k_ifYes X32 d_jdk_52_4_3 (by decide) (pc' := 28) (by decide) (by decide) ?_
  refine k_iloadN X32 d_jdk_52_4_28 rfl (pc' := 29) rfl ?_
  refine k_iconst X32 d_jdk_52_4_29 (w := (1 : Int32)) rfl (pc' := 30) rfl ?_
  refine k_ishl X32 d_jdk_52_4_30 (w := (Int32.ofNat (2 * i))) (own_shl1 (by omega)) (pc' := 31) rfl ?_
  refine k_istoreN X32 d_jdk_52_4_31 (Ls' := #[.val (.ref d), .val (.int (Int32.ofNat (2 * i))), .val (.int c0)]) rfl (pc' := 32) rfl ?_
  refine k_aloadN X32 d_jdk_52_4_32 rfl rfl (pc' := 33) rfl ?_
  refine k_iloadN X32 d_jdk_52_4_33 rfl (pc' := 34) rfl ?_
  refine k_iinc X32 d_jdk_52_4_34 rfl (w := (Int32.ofNat (2 * i + 1))) (own_succ (2 * i)) (Ls' := #[.val (.ref d), .val (.int (Int32.ofNat (2 * i + 1))), .val (.int c0)]) rfl (pc' := 37) rfl ?_
  refine k_iloadN X32 d_jdk_52_4_37 rfl (pc' := 38) rfl ?_
  refine k_getS X32 d_jdk_52_4_38 (host := "") (Or.inl (w_96 hw)) Via.refl (G_HI_BYTE_SHIFT.ext X32.old.2) (pc' := 41) rfl fun T33 X34 => ?_
  refine k_ishr X34 d_jdk_52_4_41 (w := c0) (own_shr0 c0) (pc' := 42) rfl ?_
  refine k_i2b X34 d_jdk_52_4_42 (w := (c0.toInt8.toInt32)) rfl (pc' := 43) rfl ?_
  have ge36 : n0 ≤ d := by omega
  refine k_bastore X34 (w := (c0.toInt8.toInt32)) (2 * i) d_jdk_52_4_43 q0 (own_nn (by omega)) l1 (own_clamp (by omega)) (by omega) (own_i2b _) (vs' := (vs.set (2 * i) (own_lo c0))) rfl trivial ge36 (pc' := 44) rfl fun T35 h35 L35 X35 K35 V35 => ?_
  have sz_h35 := K35.1
  have K0_h35 : Keep h0 h35 [d] := K0_h0.trans K35 (allS (Or.inl (List.mem_of_getElem? (i := 0) rfl)) all0)
  refine k_aloadN X35 d_jdk_52_4_44 rfl rfl (pc' := 45) rfl ?_
  refine k_iloadN X35 d_jdk_52_4_45 rfl (pc' := 46) rfl ?_
  refine k_iloadN X35 d_jdk_52_4_46 rfl (pc' := 47) rfl ?_
  refine k_getS X35 d_jdk_52_4_47 (host := "") (Or.inl (w_97 hw)) Via.refl (G_LO_BYTE_SHIFT.ext X35.old.2) (pc' := 50) rfl fun T37 X38 => ?_
  refine k_ishr X38 d_jdk_52_4_50 (w := (c0 >>> ((8 : Int32) &&& 31))) rfl (pc' := 51) rfl ?_
  refine k_i2b X38 d_jdk_52_4_51 (w := ((c0 >>> ((8 : Int32) &&& 31)).toInt8.toInt32)) rfl (pc' := 52) rfl ?_
  have ge40 : n0 ≤ d := by omega
  refine k_bastore X38 (w := ((c0 >>> ((8 : Int32) &&& 31)).toInt8.toInt32)) (2 * i + 1) d_jdk_52_4_52 V35 (own_nn (by omega)) l2 (own_clamp (by omega)) (by simp; omega) (own_i2b _) (vs' := ((vs.set (2 * i) (own_lo c0)).set (2 * i + 1) (own_hi c0))) rfl trivial ge40 (pc' := 53) rfl fun T39 h39 L39 X39 K39 V39 => ?_
  have sz_h39 := K39.1
  have K0_h39 : Keep h0 h39 [d] := K0_h35.trans K39 (allS (Or.inl (List.mem_of_getElem? (i := 0) rfl)) all0)
  exact k_retFV X39 d_jdk_52_4_53 rfl K0_h39 ⟨rfl, V39⟩ (by decide) (by decide)
set_option maxRecDepth 65536 in
set_option maxHeartbeats 40000000 in
theorem own_getC (l : Launch) (Z : State) (a0 : Array Value) (hw : ∀ d ∈ tables_1, d.before a0 Z = true) {zc : Int32} {fm : Value} {em : Nat}  (G : Gl Z zc fm em) (n0 : Nat) (h0 : Heap) (O0 : Old Z n0 h0) (d : Nat) (kd : ClassId) (zz : Int32) (cs : List Int32) (j : Nat) (jv : Int32) (hjv : jv = Int32.ofNat j) (hj : j < cs.length) (hzz : zz = Int32.ofNat (2 * cs.length)) (hb0 : 2 * cs.length < 2147483648) (hr : ¬ cs.getD j 0 < 0 ∧ ¬ 65535 < cs.getD j 0)  (q0 : Arv Z h0 d kd .byte zz (own_u16 cs) (.int (0 : Int32))) :
    MetF l [] Z n0 (⟨"java/lang/StringUTF16", "getChar", "([BI)C"⟩ : MethodName) jdk_52_method_5_code 2 (Option.some FieldType.char) ({ frames := 0, cells := 0, slots := 0, locals := 0 } : Room) #[(.ref d), (.int jv)] h0 [] (fun r h' => ∃ w, r = some w ∧ w = (.int (cs.getD j 0)) ∧ True) := by
  subst hjv
  refine metF (plainFor_of_name pn_0) O0 (Ls := #[.val (.ref d), .val (.int (Int32.ofNat j))]) (fun m => by first | rfl | (simp [entryFrame, mkF, argsToLocals, Value.category]; done)) ?_
  intro p e s m below meth c T0 X0
  have K0_h0 := Keep.refl h0 []
  have n0le := X0.n0le
  have ltq0 := own_n q0.lt
  obtain ⟨G_cs, G_zc, G_fm, isref_fm, G_assertionsDisabled, G_HI_BYTE_SHIFT, G_LO_BYTE_SHIFT, GS_em, GE_em, GF_em⟩ := id G
  have oz := X0.old.1
  have ltz0 := own_n GE_em.lt
  have l1 := own_lt (show 2 * j < 2 * cs.length by omega) hb0
  have l2 := own_lt (show 2 * j + 1 < 2 * cs.length by omega) hb0
  rw [← hzz] at l1 l2
  refine k_getS X0 d_jdk_52_5_0 (host := "") (Or.inl (w_95 hw)) Via.refl (G_assertionsDisabled.ext X0.old.2) (pc' := 3) rfl fun T41 X42 => ?_
  refine k_ifYes X42 d_jdk_52_5_3 (by decide) (pc' := 28) (by decide) (by decide) ?_
  refine k_iloadN X42 d_jdk_52_5_28 rfl (pc' := 29) rfl ?_
  refine k_iconst X42 d_jdk_52_5_29 (w := (1 : Int32)) rfl (pc' := 30) rfl ?_
  refine k_ishl X42 d_jdk_52_5_30 (w := (Int32.ofNat (2 * j))) (own_shl1 (by omega)) (pc' := 31) rfl ?_
  refine k_istoreN X42 d_jdk_52_5_31 (Ls' := #[.val (.ref d), .val (.int (Int32.ofNat (2 * j)))]) rfl (pc' := 32) rfl ?_
  refine k_aloadN X42 d_jdk_52_5_32 rfl rfl (pc' := 33) rfl ?_
  refine k_iloadN X42 d_jdk_52_5_33 rfl (pc' := 34) rfl ?_
  refine k_iinc X42 d_jdk_52_5_34 rfl (w := (Int32.ofNat (2 * j + 1))) (own_succ (2 * j)) (Ls' := #[.val (.ref d), .val (.int (Int32.ofNat (2 * j + 1)))]) rfl (pc' := 37) rfl ?_
  refine k_baload X42 d_jdk_52_5_37 q0 (own_nn (by omega)) l1 (v := (.int ((cs.getD j 0).toInt8.toInt32))) (by rw [own_clamp (by omega)]; exact own_u16lo cs j _ hj) (pc' := 38) rfl ?_
  refine k_sipush X42 d_jdk_52_5_38 (w := (255 : Int32)) rfl (pc' := 41) rfl ?_
  refine k_iand X42 d_jdk_52_5_41 (w := (((cs.getD j 0).toInt8.toInt32) &&& (255 : Int32))) rfl (pc' := 42) rfl ?_
  refine k_getS X42 d_jdk_52_5_42 (host := "") (Or.inl (w_96 hw)) Via.refl (G_HI_BYTE_SHIFT.ext X42.old.2) (pc' := 45) rfl fun T43 X44 => ?_
  refine k_ishl X44 d_jdk_52_5_45 (w := ((cs.getD j 0).toInt8.toInt32 &&& (255 : Int32))) (own_shl0 _) (pc' := 46) rfl ?_
  refine k_aloadN X44 d_jdk_52_5_46 rfl rfl (pc' := 47) rfl ?_
  refine k_iloadN X44 d_jdk_52_5_47 rfl (pc' := 48) rfl ?_
  refine k_baload X44 d_jdk_52_5_48 q0 (own_nn (by omega)) l2 (v := (.int ((cs.getD j 0 >>> ((8 : Int32) &&& 31)).toInt8.toInt32))) (by rw [own_clamp (by omega)]; exact own_u16hi cs j _ hj) (pc' := 49) rfl ?_
  refine k_sipush X44 d_jdk_52_5_49 (w := (255 : Int32)) rfl (pc' := 52) rfl ?_
  refine k_iand X44 d_jdk_52_5_52 (w := (((cs.getD j 0 >>> ((8 : Int32) &&& 31)).toInt8.toInt32) &&& (255 : Int32))) rfl (pc' := 53) rfl ?_
  refine k_getS X44 d_jdk_52_5_53 (host := "") (Or.inl (w_97 hw)) Via.refl (G_LO_BYTE_SHIFT.ext X44.old.2) (pc' := 56) rfl fun T45 X46 => ?_
  refine k_ishl X46 d_jdk_52_5_56 (w := ((((cs.getD j 0 >>> ((8 : Int32) &&& 31)).toInt8.toInt32) &&& (255 : Int32)) <<< ((8 : Int32) &&& 31))) rfl (pc' := 57) rfl ?_
  refine k_ior X46 d_jdk_52_5_57 (w := (((cs.getD j 0).toInt8.toInt32 &&& (255 : Int32)) ||| ((((cs.getD j 0 >>> ((8 : Int32) &&& 31)).toInt8.toInt32) &&& (255 : Int32)) <<< ((8 : Int32) &&& 31)))) rfl (pc' := 58) rfl ?_
  refine k_i2c X46 d_jdk_52_5_58 (w := (cs.getD j 0)) (own_join hr.1 hr.2) (pc' := 59) rfl ?_
  exact k_retFN X46 (w := (cs.getD j 0)) d_jdk_52_5_59 (t := .char) rfl (by simp) (own_i2c_id hr.1 hr.2) K0_h0 ⟨_, rfl, rfl, trivial⟩ (by decide) (by decide)
set_option maxRecDepth 65536 in
set_option maxHeartbeats 40000000 in
theorem own_nbl (l : Launch) (Z : State) (a0 : Array Value) (hw : ∀ d ∈ tables_1, d.before a0 Z = true) {zc : Int32} {fm : Value} {em : Nat}  (G : Gl Z zc fm em) (n0 : Nat) (h0 : Heap) (O0 : Old Z n0 h0) (n : Nat) (zv : Int32) (hzv : zv = Int32.ofNat n) (hn : n < 1073741823)   :
    MetF l [] Z n0 (⟨"java/lang/StringUTF16", "newBytesLength", "(I)I"⟩ : MethodName) jdk_52_method_3_code 1 (Option.some FieldType.int) ({ frames := 0, cells := 0, slots := 0, locals := 0 } : Room) #[(.int zv)] h0 [] (fun r h' => ∃ w, r = some w ∧ w = (.int (Int32.ofNat (2 * n))) ∧ True) := by
  subst hzv
  refine metF (plainFor_of_name pn_0) O0 (Ls := #[.val (.int (Int32.ofNat n))]) (fun m => by first | rfl | (simp [entryFrame, mkF, argsToLocals, Value.category]; done)) ?_
  intro p e s m below meth c T0 X0
  have K0_h0 := Keep.refl h0 []
  have n0le := X0.n0le
  obtain ⟨G_cs, G_zc, G_fm, isref_fm, G_assertionsDisabled, G_HI_BYTE_SHIFT, G_LO_BYTE_SHIFT, GS_em, GE_em, GF_em⟩ := id G
  have oz := X0.old.1
  have ltz0 := own_n GE_em.lt
  have h1 : Int32.ofNat n < (1073741823 : Int32) := own_lt hn (by decide)
  refine k_iloadN X0 d_jdk_52_3_0 rfl (pc' := 1) rfl ?_
  refine k_ifYes X0 d_jdk_52_3_1 ((if0 _ _).trans (flt (own_nn (by omega))).2.1) (pc' := 12) (by decide) (by decide) ?_
  refine k_iloadN X0 d_jdk_52_3_12 rfl (pc' := 13) rfl ?_
  refine k_ldcI X0 d_jdk_52_3_13 (w_91 hw) (pc' := 15) rfl ?_
  refine k_icmpYes X0 d_jdk_52_3_15 (tlt h1).1 (pc' := 55) (by decide) (by decide) ?_
  refine k_iloadN X0 d_jdk_52_3_55 rfl (pc' := 56) rfl ?_
  refine k_iconst X0 d_jdk_52_3_56 (w := (1 : Int32)) rfl (pc' := 57) rfl ?_
  refine k_ishl X0 d_jdk_52_3_57 (w := (Int32.ofNat (2 * n))) (own_shl1 (by omega)) (pc' := 58) rfl ?_
  exact k_retFI X0 d_jdk_52_3_58 rfl K0_h0 ⟨_, rfl, rfl, trivial⟩ (by decide) (by decide)
set_option maxRecDepth 65536 in
set_option maxHeartbeats 40000000 in
theorem own_nbf (l : Launch) (Z : State) (a0 : Array Value) (hw : ∀ d ∈ tables_1, d.before a0 Z = true) {zc : Int32} {fm : Value} {em : Nat}  (G : Gl Z zc fm em) (n0 : Nat) (h0 : Heap) (O0 : Old Z n0 h0) (n : Nat) (zv : Int32) (hzv : zv = Int32.ofNat n) (hn : n ≤ 88)   :
    MetF l [] Z n0 (⟨"java/lang/StringUTF16", "newBytesFor", "(I)[B"⟩ : MethodName) jdk_52_method_2_code 1 (Option.some (FieldType.array FieldType.byte)) ({ frames := 1, cells := 1, slots := 176, locals := 12 } : Room) #[(.int zv)] h0 [] (fun r h' => ∃ w, r = some w ∧ ∃ (t : Nat), ∃ (kt : ClassId), w = (.ref t) ∧ (Arv Z h' t kt .byte (Int32.ofNat (2 * n)) (List.replicate (2 * n) (.int (0 : Int32))) (.int (0 : Int32))) ∧ (h0.size ≤ t)) := by
  refine metF (plainFor_of_name pn_0) O0 (Ls := #[.val (.int zv)]) (fun m => by first | rfl | (simp [entryFrame, mkF, argsToLocals, Value.category]; done)) ?_
  intro p e s m below meth c T0 X0
  have K0_h0 := Keep.refl h0 []
  have n0le := X0.n0le
  obtain ⟨G_cs, G_zc, G_fm, isref_fm, G_assertionsDisabled, G_HI_BYTE_SHIFT, G_LO_BYTE_SHIFT, GS_em, GE_em, GF_em⟩ := id G
  have oz := X0.old.1
  have ltz0 := own_n GE_em.lt
  refine k_iloadN X0 d_jdk_52_2_0 rfl (pc' := 1) rfl ?_
  refine k_callSVF X0 (y := (⟨"java/lang/StringUTF16", "newBytesLength", "(I)I"⟩ : MethodName)) d_jdk_52_2_1 (w_88 hw) (w_89 hw) (w_21 hw) (w_90 hw) (by decide) (argsL := [(.int zv)]) (rest := []) (own_nbl l Z a0 hw G n0 h0 X0.old n zv hzv (by omega) ) rfl pd_3 rfl rfl (by decide) (W := 0) (Nat.le_of_eq rfl) (by decide) (by decide) (by decide) all0 (pc' := 4) rfl ?_
  rintro _ T47 h47 L47 X47 K47 ⟨rfl, -⟩
  have sz_h47 := K47.1
  have K0_h47 : Keep h0 h47 [] := K0_h0.trans K47 all0
  refine k_newP X47 d_jdk_52_2_4 (w_23 hw) (own_nn (by omega)) (cap := 176) (by rw [own_clamp (by omega)]; omega) (by decide) (by decide) (by decide) (pc' := 6) rfl fun T49 h49 b49 k49 g49 X49 K49 V49 S49 lt49 ge49 => ?_
  have sz_h49 := K49.1
  have K0_h49 : Keep h0 h49 [] := K0_h47.trans K49 all0
  have Vp : Arv Z h49 b49 k49 .byte (Int32.ofNat (2 * n)) (List.replicate (2 * n) (.int (0 : Int32))) (.int (0 : Int32)) := Arv.pad V49 (fun i => by simpa using pad_rep [] (.int (0 : Int32)) (2 * n) i)
  exact k_retFA X49 d_jdk_52_2_6 rfl rfl rfl rfl K0_h49 ⟨_, rfl, _, _, rfl, Vp, by omega⟩ (by decide) (by decide)
set_option maxRecDepth 65536 in
set_option maxHeartbeats 40000000 in
theorem own_toB (l : Launch) (Z : State) (a0 : Array Value) (hw : ∀ d ∈ tables_1, d.before a0 Z = true) {zc : Int32} {fm : Value} {em : Nat}  (G : Gl Z zc fm em) (n0 : Nat) (h0 : Heap) (O0 : Old Z n0 h0) (b : Nat) (kb : ClassId) (z : Int32) (cs : List Int32) (hz : z = Int32.ofNat cs.length) (hn : cs.length ≤ 88)  (q0 : Arv Z h0 b kb .char z (cs.map Value.int) (.int 0)) :
    MetF l [] Z n0 (⟨"java/lang/StringUTF16", "toBytes", "([CII)[B"⟩ : MethodName) jdk_52_method_14_code 5 (Option.some (FieldType.array FieldType.byte)) ({ frames := 2, cells := 1, slots := 176, locals := 24 } : Room) #[(.ref b), (.int (0 : Int32)), (.int z)] h0 [] (fun r h' => ∃ w, r = some w ∧ ∃ (t : Nat), ∃ (kt : ClassId), w = (.ref t) ∧ (Arv Z h' t kt .byte (Int32.ofNat (2 * cs.length)) (own_u16 cs) (.int (0 : Int32))) ∧ (h0.size ≤ t)) := by
  refine metF (plainFor_of_name pn_0) O0 (Ls := #[.val (.ref b), .val (.int (0 : Int32)), .val (.int z), .unset, .unset]) (fun m => by first | rfl | (simp [entryFrame, mkF, argsToLocals, Value.category]; done)) ?_
  intro p e s m below meth c T0 X0
  have K0_h0 := Keep.refl h0 []
  have n0le := X0.n0le
  have ltq0 := own_n q0.lt
  obtain ⟨G_cs, G_zc, G_fm, isref_fm, G_assertionsDisabled, G_HI_BYTE_SHIFT, G_LO_BYTE_SHIFT, GS_em, GE_em, GF_em⟩ := id G
  have oz := X0.old.1
  have ltz0 := own_n GE_em.lt
  refine k_iloadN X0 d_jdk_52_14_0 rfl (pc' := 1) rfl ?_
  refine k_callSVF X0 (y := (⟨"java/lang/StringUTF16", "newBytesFor", "(I)[B"⟩ : MethodName)) d_jdk_52_14_1 (w_85 hw) (w_86 hw) (w_21 hw) (w_87 hw) (by decide) (argsL := [(.int z)]) (rest := []) (own_nbf l Z a0 hw G n0 h0 X0.old (cs.length) z hz hn ) rfl pd_4 rfl rfl (by decide) (W := 0) (Nat.le_of_eq rfl) (by decide) (by decide) (by decide) all0 (pc' := 4) rfl ?_
  rintro _ T52 h52 L52 X52 K52 ⟨t_50, kt_51, rfl, q52_0, q52_1⟩
  have sz_h52 := K52.1
  have K0_h52 : Keep h0 h52 [] := K0_h0.trans K52 all0
  have lt52_0 := own_n q52_0.lt
  refine k_astoreN X52 d_jdk_52_14_4 rfl (Ls' := #[.val (.ref b), .val (.int (0 : Int32)), .val (.int z), .val (.ref t_50), .unset]) rfl (pc' := 5) rfl ?_
  refine k_iconst X52 d_jdk_52_14_5 (w := (0 : Int32)) rfl (pc' := 6) rfl ?_
  refine k_istore X52 d_jdk_52_14_6 (Ls' := #[.val (.ref b), .val (.int (0 : Int32)), .val (.int z), .val (.ref t_50), .val (.int (0 : Int32))]) rfl (pc' := 8) rfl ?_
  have loop : ∀ (n i : Nat) (T : State) (h : Heap) (L : List Loc) (cl sl : Nat), n = cs.length - i → i ≤ cs.length → cl = 1 → sl = 176 → WP p l e ({ frames := 2, cells := 1, slots := 176, locals := 24 } : Room) s m #[(.ref b), (.int (0 : Int32)), (.int z)] below meth c Z "java/lang/StringUTF16" "toBytes" jdk_52_method_14_code 5 (Option.some (FieldType.array FieldType.byte)) n0 (fun _ => True) (fun _ _ => True) T h L cl sl → Keep h0 h [] → Arv Z h b kb .char z (cs.map Value.int) (.int 0) → Arv Z h t_50 kt_51 .byte (Int32.ofNat (2 * cs.length)) (own_u16 (cs.take i) ++ List.replicate (2 * (cs.length - i)) (.int (0 : Int32))) (.int (0 : Int32)) → Run p.tables e below (PF s below n0 h0 [] (fun r h' => ∃ w, r = some w ∧ ∃ (t : Nat), ∃ (kt : ClassId), w = (.ref t) ∧ (Arv Z h' t kt .byte (Int32.ofNat (2 * cs.length)) (own_u16 cs) (.int (0 : Int32))) ∧ (h0.size ≤ t)) ({ frames := 2, cells := 1, slots := 176, locals := 24 } : Room).cells ({ frames := 2, cells := 1, slots := 176, locals := 24 } : Room).slots) T (mkF m 8 #[.val (.ref b), .val (.int (Int32.ofNat i)), .val (.int z), .val (.ref t_50), .val (.int (Int32.ofNat i))] []) := by
    intro n
    induction n with
    | zero =>
      intro i T h L cl sl hni hij hcl hsl X K Vb Vd
      subst hcl hsl
      have hi : i = cs.length := by omega
      subst hi
      have hnl : ¬ (Int32.ofNat cs.length < z) := by rw [← hz]; exact Int32.lt_irrefl
      have lb := own_n Vb.lt
      have ld := own_n Vd.lt
      have lh0 := K.1
      have lb0 := own_n q0.lt
      have nle := X.n0le
      refine k_iload X d_jdk_52_14_8 rfl (pc' := 10) rfl ?_
      refine k_iloadN X d_jdk_52_14_10 rfl (pc' := 11) rfl ?_
      refine k_icmpYes X d_jdk_52_14_11 (flt hnl).2.1 (pc' := 32) (by decide) (by decide) ?_
      refine k_aloadN X d_jdk_52_14_32 rfl rfl (pc' := 33) rfl ?_
      have Ve : Arv Z h t_50 kt_51 .byte (Int32.ofNat (2 * cs.length)) (own_u16 cs) (.int (0 : Int32)) := by simpa using Vd
      exact k_retFA X d_jdk_52_14_33 rfl rfl rfl rfl K ⟨_, rfl, _, _, rfl, Ve, by omega⟩ (by decide) (by decide)
    | succ n ih =>
      intro i T h L cl sl hni hij hcl hsl X K Vb Vd
      subst hcl hsl
      have hi : i < cs.length := by omega
      have hlt := own_lt hi (by omega)
      rw [← hz] at hlt
      have lb := own_n Vb.lt
      have ld := own_n Vd.lt
      have lh0 := K.1
      have lb0 := own_n q0.lt
      have nle := X.n0le
      refine k_iload X d_jdk_52_14_8 rfl (pc' := 10) rfl ?_
      refine k_iloadN X d_jdk_52_14_10 rfl (pc' := 11) rfl ?_
      refine k_icmpNo X d_jdk_52_14_11 (tlt hlt).2.1 (pc' := 14) rfl ?_
      refine k_aloadN X d_jdk_52_14_14 rfl rfl (pc' := 15) rfl ?_
      refine k_iload X d_jdk_52_14_15 rfl (pc' := 17) rfl ?_
      refine k_aloadN X d_jdk_52_14_17 rfl rfl (pc' := 18) rfl ?_
      refine k_iloadN X d_jdk_52_14_18 rfl (pc' := 19) rfl ?_
      refine k_caload X d_jdk_52_14_19 Vb (own_nn (by omega)) hlt (v := (.int (cs.getD i 0))) (own_getc' cs (by omega)) (pc' := 20) rfl ?_
      have ge54 : n0 ≤ t_50 := by omega
      refine k_callSNF X (y := (⟨"java/lang/StringUTF16", "putChar", "([BII)V"⟩ : MethodName)) d_jdk_52_14_20 (w_92 hw) (w_93 hw) (w_21 hw) (w_94 hw) (by decide) (argsL := [(.ref t_50), (.int (Int32.ofNat i)), (.int (cs.getD i 0))]) (rest := []) (own_putC l Z a0 hw G n0 h X.old t_50 kt_51 (Int32.ofNat (2 * cs.length)) (own_u16 (cs.take i) ++ List.replicate (2 * (cs.length - i)) (.int (0 : Int32))) i (cs.getD i 0) (by rw [own_u16l cs i hij]; omega) (by rw [own_u16l cs i hij]) (by rw [own_u16l cs i hij]; omega) (by omega) Vd) rfl pd_5 rfl rfl (by decide) (W := 0) (Nat.le_of_eq rfl) (by decide) (by decide) (by decide) (allS ⟨trivial, ge54⟩ all0) (pc' := 23) rfl ?_
      rintro T55 h55 L55 X55 K55 q55_0
      have sz_h55 := K55.1
      have K0_h55 : Keep h0 h55 [] := K.trans K55 (allS (Or.inr (by omega)) all0)
      have lt55_0 := own_n q55_0.lt
      refine k_iinc X55 d_jdk_52_14_23 rfl (w := (Int32.ofNat (i + 1))) (own_succ i) (Ls' := #[.val (.ref b), .val (.int (Int32.ofNat (i + 1))), .val (.int z), .val (.ref t_50), .val (.int (Int32.ofNat i))]) rfl (pc' := 26) rfl ?_
      refine k_iinc X55 d_jdk_52_14_26 rfl (w := (Int32.ofNat (i + 1))) (own_succ i) (Ls' := #[.val (.ref b), .val (.int (Int32.ofNat (i + 1))), .val (.int z), .val (.ref t_50), .val (.int (Int32.ofNat (i + 1)))]) rfl (pc' := 29) rfl ?_
      refine k_goto X55 d_jdk_52_14_29 (pc' := 8) (by decide) (by decide) ?_
      have c56 := (Vb.keep K55 (ninS (own_ne (by omega) : b ≠ t_50) nin0))
      rw [own_u16turn cs i hi] at q55_0
      exact ih (i + 1) _ _ _ _ _ (by omega) (by omega) rfl rfl X55 K0_h55 c56 q55_0
  have c57 := (q0.keep K52 nin0)
  exact loop _ 0 _ _ _ _ _ rfl (by omega) rfl rfl X52 K0_h52 c57 (by simpa [own_u16] using q52_0)
set_option maxRecDepth 65536 in
set_option maxHeartbeats 40000000 in
theorem own_cmp3U (l : Launch) (Z : State) (a0 : Array Value) (hw : ∀ d ∈ tables_1, d.before a0 Z = true) {zc : Int32} {fm : Value} {em : Nat}  (G : Gl Z zc fm em) (n0 : Nat) (h0 : Heap) (O0 : Old Z n0 h0) (b : Nat) (kb : ClassId) (z : Int32) (cs : List Int32) (hz : z = Int32.ofNat cs.length) (hn : cs.length ≤ 88) (hj : own_fst cs < cs.length)  (q0 : Arv Z h0 b kb .char z (cs.map Value.int) (.int 0)) :
    MetF l [] Z n0 (⟨"java/lang/StringUTF16", "compress", "([CII)[B"⟩ : MethodName) jdk_52_method_16_code 6 (Option.some (FieldType.array FieldType.byte)) ({ frames := 3, cells := 2, slots := 264, locals := 40 } : Room) #[(.ref b), (.int (0 : Int32)), (.int z)] h0 [] (fun r h' => ∃ w, r = some w ∧ ∃ (t : Nat), ∃ (kt : ClassId), w = (.ref t) ∧ (Arv Z h' t kt .byte (Int32.ofNat (2 * cs.length)) (own_u16 cs) (.int (0 : Int32))) ∧ (h0.size ≤ t)) := by
  refine metF (plainFor_of_name pn_0) O0 (Ls := #[.val (.ref b), .val (.int (0 : Int32)), .val (.int z), .unset, .unset, .unset]) (fun m => by first | rfl | (simp [entryFrame, mkF, argsToLocals, Value.category]; done)) ?_
  intro p e s m below meth c T0 X0
  have K0_h0 := Keep.refl h0 []
  have n0le := X0.n0le
  have ltq0 := own_n q0.lt
  obtain ⟨G_cs, G_zc, G_fm, isref_fm, G_assertionsDisabled, G_HI_BYTE_SHIFT, G_LO_BYTE_SHIFT, GS_em, GE_em, GF_em⟩ := id G
  have oz := X0.old.1
  have ltz0 := own_n GE_em.lt
  have hnz : ¬ z < 0 := by rw [hz]; exact own_nn (by omega)
  have hcl : z.toNatClampNeg = cs.length := by rw [hz]; exact own_clamp (by omega)
  have hrg := own_rng q0 hz (by omega) (own_fst cs) hj
  refine k_iloadN X0 d_jdk_52_16_0 rfl (pc' := 1) rfl ?_
  refine k_newP X0 d_jdk_52_16_1 (w_23 hw) hnz (cap := 88) (by omega) (by decide) (by decide) (by decide) (pc' := 3) rfl fun T58 h58 b58 k58 g58 X58 K58 V58 S58 lt58 ge58 => ?_
  have sz_h58 := K58.1
  have K0_h58 : Keep h0 h58 [] := K0_h0.trans K58 all0
  have Vp : Arv Z h58 b58 k58 .byte z (List.replicate cs.length (.int (0 : Int32))) (.int (0 : Int32)) := Arv.pad V58 (fun i => by simpa using pad_rep [] (.int (0 : Int32)) cs.length i)
  refine k_astoreN X58 d_jdk_52_16_3 rfl (Ls' := #[.val (.ref b), .val (.int (0 : Int32)), .val (.int z), .val (.ref b58), .unset, .unset]) rfl (pc' := 4) rfl ?_
  refine k_aloadN X58 d_jdk_52_16_4 rfl rfl (pc' := 5) rfl ?_
  refine k_iloadN X58 d_jdk_52_16_5 rfl (pc' := 6) rfl ?_
  refine k_aloadN X58 d_jdk_52_16_6 rfl rfl (pc' := 7) rfl ?_
  refine k_iconst X58 d_jdk_52_16_7 (w := (0 : Int32)) rfl (pc' := 8) rfl ?_
  refine k_iloadN X58 d_jdk_52_16_8 rfl (pc' := 9) rfl ?_
  have c59 := (q0.keep K58 nin0)
  have ge60 : n0 ≤ b58 := by omega
  refine k_callSVF X58 (y := (⟨"java/lang/StringUTF16", "compress", "([CI[BII)I"⟩ : MethodName)) d_jdk_52_16_9 (w_24 hw) (w_25 hw) (w_21 hw) (w_26 hw) (by decide) (argsL := [(.ref b), (.int (0 : Int32)), (.ref b58), (.int (0 : Int32)), (.int z)]) (rest := []) (own_cmp5 l Z a0 hw G n0 h58 X58.old b b58 kb k58 z cs (List.replicate cs.length (.int (0 : Int32))) (by omega) hz (by omega) (by simp) (by omega) c59 Vp) rfl pd_0 rfl rfl (by decide) (W := 0) (Nat.le_of_eq rfl) (by decide) (by decide) (by decide) (allS ⟨trivial, ge60⟩ all0) (pc' := 12) rfl ?_
  rintro _ T61 h61 L61 X61 K61 ⟨rfl, q61_0⟩
  have sz_h61 := K61.1
  have K0_h61 : Keep h0 h61 [] := K0_h58.trans K61 (allS (Or.inr (by omega)) all0)
  have lt61_0 := own_n q61_0.lt
  refine k_istore X61 d_jdk_52_16_12 (Ls' := #[.val (.ref b), .val (.int (0 : Int32)), .val (.int z), .val (.ref b58), .val (.int (Int32.ofNat (own_fst cs))), .unset]) rfl (pc' := 14) rfl ?_
  refine k_iload X61 d_jdk_52_16_14 rfl (pc' := 16) rfl ?_
  refine k_iloadN X61 d_jdk_52_16_16 rfl (pc' := 17) rfl ?_
  have hz2 : ¬ (Int32.ofNat (own_fst cs) = z) := by rw [hz]; intro q; have := own_lt hj (by omega); rw [q] at this; exact Int32.lt_irrefl this
  refine k_icmpNo X61 d_jdk_52_16_17 (feq hz2).1 (pc' := 20) rfl ?_
  refine k_aloadN X61 d_jdk_52_16_20 rfl rfl (pc' := 21) rfl ?_
  refine k_iloadN X61 d_jdk_52_16_21 rfl (pc' := 22) rfl ?_
  refine k_iloadN X61 d_jdk_52_16_22 rfl (pc' := 23) rfl ?_
  have c63 := (c59.keep K61 (ninS (own_ne (by omega) : b ≠ b58) nin0))
  refine k_callSVF X61 (y := (⟨"java/lang/StringUTF16", "toBytes", "([CII)[B"⟩ : MethodName)) d_jdk_52_16_23 (w_82 hw) (w_83 hw) (w_21 hw) (w_84 hw) (by decide) (argsL := [(.ref b), (.int (0 : Int32)), (.int z)]) (rest := []) (own_toB l Z a0 hw G n0 h61 X61.old b kb z cs hz hn c63) rfl pd_1 rfl rfl (by decide) (W := 0) (Nat.le_of_eq rfl) (by decide) (by decide) (by decide) all0 (pc' := 26) rfl ?_
  rintro _ T66 h66 L66 X66 K66 ⟨t_64, kt_65, rfl, q66_0, q66_1⟩
  have sz_h66 := K66.1
  have K0_h66 : Keep h0 h66 [] := K0_h61.trans K66 all0
  have lt66_0 := own_n q66_0.lt
  refine k_astore X66 d_jdk_52_16_26 rfl (Ls' := #[.val (.ref b), .val (.int (0 : Int32)), .val (.int z), .val (.ref b58), .val (.int (Int32.ofNat (own_fst cs))), .val (.ref t_64)]) rfl (pc' := 28) rfl ?_
  refine k_aload X66 d_jdk_52_16_28 rfl rfl (pc' := 30) rfl ?_
  refine k_iload X66 d_jdk_52_16_30 rfl (pc' := 32) rfl ?_
  refine k_callSVF X66 (y := (⟨"java/lang/StringUTF16", "getChar", "([BI)C"⟩ : MethodName)) d_jdk_52_16_32 (w_98 hw) (w_99 hw) (w_21 hw) (w_100 hw) (by decide) (argsL := [(.ref t_64), (.int (Int32.ofNat (own_fst cs)))]) (rest := []) (own_getC l Z a0 hw G n0 h66 X66.old t_64 kt_65 (Int32.ofNat (2 * cs.length)) cs (own_fst cs) (Int32.ofNat (own_fst cs)) rfl hj rfl (by omega) hrg q66_0) rfl pd_6 rfl rfl (by decide) (W := 0) (Nat.le_of_eq rfl) (by decide) (by decide) (by decide) all0 (pc' := 35) rfl ?_
  rintro _ T68 h68 L68 X68 K68 ⟨rfl, -⟩
  have sz_h68 := K68.1
  have K0_h68 : Keep h0 h68 [] := K0_h66.trans K68 all0
  refine k_sipush X68 d_jdk_52_16_35 (w := (255 : Int32)) rfl (pc' := 38) rfl ?_
  refine k_icmpYes X68 d_jdk_52_16_38 (tlt (own_fst_hi cs hj)).2.2.1 (pc' := 54) (by decide) (by decide) ?_
  refine k_aload X68 d_jdk_52_16_54 rfl rfl (pc' := 56) rfl ?_
  have c70 := (q66_0.keep K68 nin0)
  exact k_retFA X68 d_jdk_52_16_56 rfl rfl rfl rfl K0_h68 ⟨_, rfl, _, _, rfl, c70, by omega⟩ (by decide) (by decide)
set_option maxRecDepth 65536 in
set_option maxHeartbeats 40000000 in
theorem own_codU (l : Launch) (Z : State) (a0 : Array Value) (hw : ∀ d ∈ tables_1, d.before a0 Z = true) {zc : Int32} {fm : Value} {em : Nat}  (G : Gl Z zc fm em) (n0 : Nat) (h0 : Heap) (O0 : Old Z n0 h0) (d : Nat) (k : ClassId) (z : Int32) (cs : List Int32) (bs : List Value) (dv : Value) (hz : z = Int32.ofNat cs.length) (h1 : 0 < cs.length) (hn : cs.length < 1073741824)  (q0 : Arv Z h0 d k .byte (Int32.ofNat (2 * cs.length)) bs dv) :
    MetF l [] Z n0 (⟨"java/lang/StringUTF16", "coderFromArrayLen", "([BI)B"⟩ : MethodName) jdk_52_method_15_code 2 (Option.some FieldType.byte) ({ frames := 0, cells := 0, slots := 0, locals := 0 } : Room) #[(.ref d), (.int z)] h0 [] (fun r h' => ∃ w, r = some w ∧ w = (.int (1 : Int32)) ∧ True) := by
  subst hz
  refine metF (plainFor_of_name pn_0) O0 (Ls := #[.val (.ref d), .val (.int (Int32.ofNat cs.length))]) (fun m => by first | rfl | (simp [entryFrame, mkF, argsToLocals, Value.category]; done)) ?_
  intro p e s m below meth c T0 X0
  have K0_h0 := Keep.refl h0 []
  have n0le := X0.n0le
  have ltq0 := own_n q0.lt
  obtain ⟨G_cs, G_zc, G_fm, isref_fm, G_assertionsDisabled, G_HI_BYTE_SHIFT, G_LO_BYTE_SHIFT, GS_em, GE_em, GF_em⟩ := id G
  have oz := X0.old.1
  have ltz0 := own_n GE_em.lt
  refine k_iloadN X0 d_jdk_52_15_0 rfl (pc' := 1) rfl ?_
  refine k_aloadN X0 d_jdk_52_15_1 rfl rfl (pc' := 2) rfl ?_
  refine k_arlen X0 d_jdk_52_15_2 q0 (pc' := 3) rfl ?_
  refine k_isub X0 d_jdk_52_15_3 (w := ((Int32.ofNat cs.length) - (Int32.ofNat (2 * cs.length)))) rfl (pc' := 4) rfl ?_
  refine k_bipush X0 d_jdk_52_15_4 (w := (31 : Int32)) rfl (pc' := 6) rfl ?_
  refine k_iushr X0 d_jdk_52_15_6 (w := (1 : Int32)) (own_neg31 h1 hn) (pc' := 7) rfl ?_
  refine k_i2b X0 d_jdk_52_15_7 (w := (1 : Int32)) (by decide) (pc' := 8) rfl ?_
  exact k_retFN X0 (w := (1 : Int32)) d_jdk_52_15_8 (t := .byte) rfl (by simp) rfl K0_h0 ⟨_, rfl, rfl, trivial⟩ (by decide) (by decide)
set_option maxRecDepth 65536 in
set_option maxHeartbeats 40000000 in
theorem own_init4U (l : Launch) (Z : State) (a0 : Array Value) (hw : ∀ d ∈ tables_1, d.before a0 Z = true) {zc : Int32} {fm : Value} {em : Nat}  (G : Gl Z zc fm em) (n0 : Nat) (h0 : Heap) (O0 : Old Z n0 h0) (a : Nat) (b : Nat) (kb : ClassId) (z : Int32) (cs : List Int32) (hz : z = Int32.ofNat cs.length) (h1 : 0 < cs.length) (hn : cs.length ≤ 88) (hj : own_fst cs < cs.length) (gw0 : n0 ≤ a) (q0 : Exa Z h0 a "java/lang/String") (q1 : Fld Z h0 a "java/lang/String" "value" "[B" .null) (q2 : Fld Z h0 a "java/lang/String" "coder" "B" (.int (0 : Int32))) (q3 : Arv Z h0 b kb .char z (cs.map Value.int) (.int 0)) :
    MetF l [] Z n0 (⟨"java/lang/String", "<init>", "([CIILjava/lang/Void;)V"⟩ : MethodName) jdk_42_method_149_code 6 (Option.none : Option FieldType) ({ frames := 4, cells := 2, slots := 264, locals := 57 } : Room) #[(.ref a), (.ref b), (.int (0 : Int32)), (.int z), .null] h0 [a] (fun r h' => r = none ∧ ∃ (t : Nat), ∃ (kt : ClassId), (Exa Z h' a "java/lang/String") ∧ (Fld Z h' a "java/lang/String" "coder" "B" (.int (1 : Int32))) ∧ (Fld Z h' a "java/lang/String" "value" "[B" (.ref t)) ∧ (Arv Z h' t kt .byte (Int32.ofNat (2 * cs.length)) (own_u16 cs) (.int (0 : Int32))) ∧ (h0.size ≤ t)) := by
  refine metF (plainFor_of_name pn_1) O0 (Ls := #[.val (.ref a), .val (.ref b), .val (.int (0 : Int32)), .val (.int z), .val .null, .unset]) (fun m => by first | rfl | (simp [entryFrame, mkF, argsToLocals, Value.category]; done)) ?_
  intro p e s m below meth c T0 X0
  have K0_h0 := Keep.refl h0 [a]
  have n0le := X0.n0le
  have ltq0 := own_n q0.lt
  have ltq1 := own_n q1.lt
  have ltq2 := own_n q2.lt
  have ltq3 := own_n q3.lt
  obtain ⟨G_cs, G_zc, G_fm, isref_fm, G_assertionsDisabled, G_HI_BYTE_SHIFT, G_LO_BYTE_SHIFT, GS_em, GE_em, GF_em⟩ := id G
  have oz := X0.old.1
  have ltz0 := own_n GE_em.lt
  have hnz0 : ¬ z = 0 := by rw [hz]; exact own_nz h1 (by omega)
  refine k_aloadN X0 d_jdk_42_149_0 rfl rfl (pc' := 1) rfl ?_
  refine k_initO X0 d_jdk_42_149_1 (w_15 hw) (w_16 hw) (w_17 hw) rfl (by decide) (W := 0) (Nat.le_of_eq rfl) (by decide) (pc' := 4) rfl fun T71 X72 => ?_
  refine k_iloadN X72 d_jdk_42_149_4 rfl (pc' := 5) rfl ?_
  refine k_ifYes X72 d_jdk_42_149_5 ((if0 _ _).trans (feq hnz0).2) (pc' := 27) (by decide) (by decide) ?_
  refine k_getS X72 d_jdk_42_149_27 (host := "") (Or.inl (w_18 hw)) Via.refl (G_cs.ext X72.old.2) (pc' := 30) rfl fun T73 X74 => ?_
  refine k_ifNo X74 d_jdk_42_149_30 ((if0 _ _).trans (feq G_zc).1) (pc' := 33) rfl ?_
  refine k_aloadN X74 d_jdk_42_149_33 rfl rfl (pc' := 34) rfl ?_
  refine k_iloadN X74 d_jdk_42_149_34 rfl (pc' := 35) rfl ?_
  refine k_iloadN X74 d_jdk_42_149_35 rfl (pc' := 36) rfl ?_
  refine k_callSVF X74 (y := (⟨"java/lang/StringUTF16", "compress", "([CII)[B"⟩ : MethodName)) d_jdk_42_149_36 (w_19 hw) (w_20 hw) (w_21 hw) (w_22 hw) (by decide) (argsL := [(.ref b), (.int (0 : Int32)), (.int z)]) (rest := []) (own_cmp3U l Z a0 hw G n0 h0 X74.old b kb z cs hz (by omega) hj q3) rfl pd_1 rfl rfl (by decide) (W := 0) (Nat.le_of_eq rfl) (by decide) (by decide) (by decide) all0 (pc' := 39) rfl ?_
  rintro _ T77 h77 L77 X77 K77 ⟨t_75, kt_76, rfl, q77_0, q77_1⟩
  have sz_h77 := K77.1
  have K0_h77 : Keep h0 h77 [a] := K0_h0.trans K77 all0
  have lt77_0 := own_n q77_0.lt
  refine k_astore X77 d_jdk_42_149_39 rfl (Ls' := #[.val (.ref a), .val (.ref b), .val (.int (0 : Int32)), .val (.int z), .val .null, .val (.ref t_75)]) rfl (pc' := 41) rfl ?_
  refine k_aloadN X77 d_jdk_42_149_41 rfl rfl (pc' := 42) rfl ?_
  refine k_aload X77 d_jdk_42_149_42 rfl rfl (pc' := 44) rfl ?_
  refine k_iloadN X77 d_jdk_42_149_44 rfl (pc' := 45) rfl ?_
  refine k_callSVF X77 (y := (⟨"java/lang/StringUTF16", "coderFromArrayLen", "([BI)B"⟩ : MethodName)) d_jdk_42_149_45 (w_27 hw) (w_28 hw) (w_21 hw) (w_29 hw) (by decide) (argsL := [(.ref t_75), (.int z)]) (rest := [(.ref a)]) (own_codU l Z a0 hw G n0 h77 X77.old t_75 kt_76 z cs (own_u16 cs) (.int (0 : Int32)) hz h1 (by omega) q77_0) rfl pd_2 rfl rfl (by decide) (W := 1) (Nat.le_of_eq rfl) (by decide) (by decide) (by decide) all0 (pc' := 48) rfl ?_
  rintro _ T79 h79 L79 X79 K79 ⟨rfl, -⟩
  have sz_h79 := K79.1
  have K0_h79 : Keep h0 h79 [a] := K0_h77.trans K79 all0
  have c81 := ((q2.keep K77 nin0).keep K79 nin0)
  have c82 := ((q0.keep K77).keep K79)
  have ge84 : n0 ≤ a := by omega
  refine k_putF X79 d_jdk_42_149_48 (host := "") (Or.inl (w_30 hw)) Via.refl c81 c82 (Or.inr ⟨(w_31 hw), rfl, X79.hnm⟩) (w_6 hw) (ty := .byte) (by decide) rfl rfl trivial ge84 (pc' := 51) rfl fun T83 h83 L83 X83 W83 K83 => ?_
  have sz_h83 := K83.1
  have K0_h83 : Keep h0 h83 [a] := K0_h79.trans K83 (allS (Or.inl (List.mem_of_getElem? (i := 0) rfl)) all0)
  have F83 := c81.same W83
  refine k_aloadN X83 d_jdk_42_149_51 rfl rfl (pc' := 52) rfl ?_
  refine k_aload X83 d_jdk_42_149_52 rfl rfl (pc' := 54) rfl ?_
  have c85 := (((q1.keep K77 nin0).keep K79 nin0).other W83 (Or.inr (slot_ne (Or.inr (w_33 hw)) (Or.inr (w_31 hw)) (by decide) (t := (.array .byte)) (t' := .byte) (by decide) (by decide))))
  have c86 := (c82.keep K83)
  have ge88 : n0 ≤ a := by omega
  refine k_putF X83 d_jdk_42_149_54 (host := "") (Or.inl (w_32 hw)) Via.refl c85 c86 (Or.inr ⟨(w_33 hw), rfl, X83.hnm⟩) (w_6 hw) (ty := (.array .byte)) (by decide) rfl rfl trivial ge88 (pc' := 57) rfl fun T87 h87 L87 X87 W87 K87 => ?_
  have sz_h87 := K87.1
  have K0_h87 : Keep h0 h87 [a] := K0_h83.trans K87 (allS (Or.inl (List.mem_of_getElem? (i := 0) rfl)) all0)
  have F87 := c85.same W87
  have c89 := (c86.keep K87)
  have c90 := (F83.other W87 (Or.inr (slot_ne (Or.inr (w_31 hw)) (Or.inr (w_33 hw)) (by decide) (t := .byte) (t' := (.array .byte)) (by decide) (by decide))))
  have c91 := (((q77_0.keep K79 nin0).keep K83 (ninS (own_ne (by omega) : t_75 ≠ a) nin0)).keep K87 (ninS (own_ne (by omega) : t_75 ≠ a) nin0))
  exact k_retFV X87 d_jdk_42_149_57 rfl K0_h87 ⟨rfl, _, _, c89, c90, F87, c91, by omega⟩ (by decide) (by decide)
set_option maxRecDepth 65536 in
set_option maxHeartbeats 40000000 in
theorem own_initU (l : Launch) (Z : State) (a0 : Array Value) (hw : ∀ d ∈ tables_1, d.before a0 Z = true) {zc : Int32} {fm : Value} {em : Nat}  (G : Gl Z zc fm em) (n0 : Nat) (h0 : Heap) (O0 : Old Z n0 h0) (a : Nat) (b : Nat) (kb : ClassId) (z : Int32) (vs : List Value) (cs : List Int32) (hvs : vs = cs.map Value.int) (hz : z = Int32.ofNat cs.length) (h1 : 0 < cs.length) (hn : cs.length ≤ 88) (hj : own_fst cs < cs.length) (gw0 : n0 ≤ a) (q0 : Exa Z h0 a "java/lang/String") (q1 : Fld Z h0 a "java/lang/String" "value" "[B" .null) (q2 : Fld Z h0 a "java/lang/String" "coder" "B" (.int (0 : Int32))) (q3 : Arv Z h0 b kb .char z vs (.int (0 : Int32))) :
    MetF l [] Z n0 (⟨"java/lang/String", "<init>", "([C)V"⟩ : MethodName) jdk_42_method_3_code 2 (Option.none : Option FieldType) ({ frames := 5, cells := 2, slots := 264, locals := 74 } : Room) #[(.ref a), (.ref b)] h0 [a] (fun r h' => r = none ∧ ∃ (t : Nat), ∃ (kt : ClassId), (Exa Z h' a "java/lang/String") ∧ (Fld Z h' a "java/lang/String" "coder" "B" (.int (1 : Int32))) ∧ (Fld Z h' a "java/lang/String" "value" "[B" (.ref t)) ∧ (Arv Z h' t kt .byte (Int32.ofNat (2 * cs.length)) (own_u16 cs) (.int (0 : Int32))) ∧ (h0.size ≤ t)) := by
  subst hvs
  refine metF (plainFor_of_name pn_1) O0 (Ls := #[.val (.ref a), .val (.ref b)]) (fun m => by first | rfl | (simp [entryFrame, mkF, argsToLocals, Value.category]; done)) ?_
  intro p e s m below meth c T0 X0
  have K0_h0 := Keep.refl h0 [a]
  have n0le := X0.n0le
  have ltq0 := own_n q0.lt
  have ltq1 := own_n q1.lt
  have ltq2 := own_n q2.lt
  have ltq3 := own_n q3.lt
  obtain ⟨G_cs, G_zc, G_fm, isref_fm, G_assertionsDisabled, G_HI_BYTE_SHIFT, G_LO_BYTE_SHIFT, GS_em, GE_em, GF_em⟩ := id G
  have oz := X0.old.1
  have ltz0 := own_n GE_em.lt
  refine k_aloadN X0 d_jdk_42_3_0 rfl rfl (pc' := 1) rfl ?_
  refine k_aloadN X0 d_jdk_42_3_1 rfl rfl (pc' := 2) rfl ?_
  refine k_iconst X0 d_jdk_42_3_2 (w := (0 : Int32)) rfl (pc' := 3) rfl ?_
  refine k_aloadN X0 d_jdk_42_3_3 rfl rfl (pc' := 4) rfl ?_
  refine k_arlen X0 d_jdk_42_3_4 q3 (pc' := 5) rfl ?_
  refine k_aconstNull X0 d_jdk_42_3_5 (pc' := 6) rfl ?_
  have ge94 : n0 ≤ a := by omega
  refine k_callPNF X0 (y := (⟨"java/lang/String", "<init>", "([CIILjava/lang/Void;)V"⟩ : MethodName)) d_jdk_42_3_6 (w_11 hw) (w_12 hw) (w_7 hw) (w_14 hw) (by decide) rfl rfl (argsL := [(.ref b), (.int (0 : Int32)), (.int z), .null]) (rest := []) (own_init4U l Z a0 hw G n0 h0 X0.old a b kb z cs hz h1 hn hj (by omega) q0 q1 q2 q3) rfl pd_7 rfl rfl (by decide) (W := 0) (Nat.le_of_eq rfl) (by decide) (by decide) (by decide) (allS ⟨trivial, ge94⟩ all0) (pc' := 9) rfl ?_
  rintro T95 h95 L95 X95 K95 ⟨t_92, kt_93, q95_0, q95_1, q95_2, q95_3, q95_4⟩
  have sz_h95 := K95.1
  have K0_h95 : Keep h0 h95 [a] := K0_h0.trans K95 (allS (Or.inl (List.mem_of_getElem? (i := 0) rfl)) all0)
  have lt95_0 := own_n q95_0.lt
  have lt95_1 := own_n q95_1.lt
  have lt95_2 := own_n q95_2.lt
  have lt95_3 := own_n q95_3.lt
  exact k_retFV X95 d_jdk_42_3_9 rfl K0_h95 ⟨rfl, _, _, q95_0, q95_1, q95_2, q95_3, by omega⟩ (by decide) (by decide)
set_option maxRecDepth 65536 in
set_option maxHeartbeats 40000000 in
theorem own_initL (l : Launch) (Z : State) (a0 : Array Value) (hw : ∀ d ∈ tables_1, d.before a0 Z = true) {zc : Int32} {fm : Value} {em : Nat}  (G : Gl Z zc fm em) (n0 : Nat) (h0 : Heap) (O0 : Old Z n0 h0) (a : Nat) (b : Nat) (kb : ClassId) (z : Int32) (vs : List Value) (cs : List Int32) (hvs : vs = cs.map Value.int) (hz : z = Int32.ofNat cs.length) (h1 : 0 < cs.length) (hn : cs.length ≤ 88) (hall : ∀ c ∈ cs, ¬ 255 < c) (gw0 : n0 ≤ a) (q0 : Exa Z h0 a "java/lang/String") (q1 : Fld Z h0 a "java/lang/String" "value" "[B" .null) (q2 : Fld Z h0 a "java/lang/String" "coder" "B" (.int (0 : Int32))) (q3 : Arv Z h0 b kb .char z vs (.int (0 : Int32))) :
    MetF l [] Z n0 (⟨"java/lang/String", "<init>", "([C)V"⟩ : MethodName) jdk_42_method_3_code 2 (Option.none : Option FieldType) ({ frames := 5, cells := 2, slots := 264, locals := 74 } : Room) #[(.ref a), (.ref b)] h0 [a] (fun r h' => r = none ∧ ∃ (t : Nat), ∃ (kt : ClassId), (Exa Z h' a "java/lang/String") ∧ (Fld Z h' a "java/lang/String" "coder" "B" (.int (0 : Int32))) ∧ (Fld Z h' a "java/lang/String" "value" "[B" (.ref t)) ∧ (Arv Z h' t kt .byte z (own_lat cs) (.int (0 : Int32))) ∧ (h0.size ≤ t)) := by
  subst hvs
  refine metF (plainFor_of_name pn_1) O0 (Ls := #[.val (.ref a), .val (.ref b)]) (fun m => by first | rfl | (simp [entryFrame, mkF, argsToLocals, Value.category]; done)) ?_
  intro p e s m below meth c T0 X0
  have K0_h0 := Keep.refl h0 [a]
  have n0le := X0.n0le
  have ltq0 := own_n q0.lt
  have ltq1 := own_n q1.lt
  have ltq2 := own_n q2.lt
  have ltq3 := own_n q3.lt
  obtain ⟨G_cs, G_zc, G_fm, isref_fm, G_assertionsDisabled, G_HI_BYTE_SHIFT, G_LO_BYTE_SHIFT, GS_em, GE_em, GF_em⟩ := id G
  have oz := X0.old.1
  have ltz0 := own_n GE_em.lt
  refine k_aloadN X0 d_jdk_42_3_0 rfl rfl (pc' := 1) rfl ?_
  refine k_aloadN X0 d_jdk_42_3_1 rfl rfl (pc' := 2) rfl ?_
  refine k_iconst X0 d_jdk_42_3_2 (w := (0 : Int32)) rfl (pc' := 3) rfl ?_
  refine k_aloadN X0 d_jdk_42_3_3 rfl rfl (pc' := 4) rfl ?_
  refine k_arlen X0 d_jdk_42_3_4 q3 (pc' := 5) rfl ?_
  refine k_aconstNull X0 d_jdk_42_3_5 (pc' := 6) rfl ?_
  have ge98 : n0 ≤ a := by omega
  refine k_callPNF X0 (y := (⟨"java/lang/String", "<init>", "([CIILjava/lang/Void;)V"⟩ : MethodName)) d_jdk_42_3_6 (w_11 hw) (w_12 hw) (w_7 hw) (w_14 hw) (by decide) rfl rfl (argsL := [(.ref b), (.int (0 : Int32)), (.int z), .null]) (rest := []) (own_init4L l Z a0 hw G n0 h0 X0.old a b kb z cs hz h1 hn hall (by omega) q0 q1 q2 q3) rfl pd_7 rfl rfl (by decide) (W := 0) (Nat.le_of_eq rfl) (by decide) (by decide) (by decide) (allS ⟨trivial, ge98⟩ all0) (pc' := 9) rfl ?_
  rintro T99 h99 L99 X99 K99 ⟨t_96, kt_97, q99_0, q99_1, q99_2, q99_3, q99_4⟩
  have sz_h99 := K99.1
  have K0_h99 : Keep h0 h99 [a] := K0_h0.trans K99 (allS (Or.inl (List.mem_of_getElem? (i := 0) rfl)) all0)
  have lt99_0 := own_n q99_0.lt
  have lt99_1 := own_n q99_1.lt
  have lt99_2 := own_n q99_2.lt
  have lt99_3 := own_n q99_3.lt
  exact k_retFV X99 d_jdk_42_3_9 rfl K0_h99 ⟨rfl, _, _, q99_0, q99_1, q99_2, q99_3, by omega⟩ (by decide) (by decide)
set_option maxRecDepth 65536 in
set_option maxHeartbeats 40000000 in
theorem own_initS (l : Launch) (Z : State) (a0 : Array Value) (hw : ∀ d ∈ tables_1, d.before a0 Z = true) {zc : Int32} {fm : Value} {em : Nat}  (G : Gl Z zc fm em) (n0 : Nat) (h0 : Heap) (O0 : Old Z n0 h0) (a : Nat) (b : Nat) (kb : ClassId) (z : Int32) (vs : List Value) (cs : List Int32) (hvs : vs = cs.map Value.int) (hz : z = Int32.ofNat cs.length) (h1 : 0 < cs.length) (hn : cs.length ≤ 88) (gw0 : n0 ≤ a) (q0 : Exa Z h0 a "java/lang/String") (q1 : Fld Z h0 a "java/lang/String" "value" "[B" .null) (q2 : Fld Z h0 a "java/lang/String" "coder" "B" (.int (0 : Int32))) (q3 : Arv Z h0 b kb .char z vs (.int (0 : Int32))) :
    MetF l [] Z n0 (⟨"java/lang/String", "<init>", "([C)V"⟩ : MethodName) jdk_42_method_3_code 2 (Option.none : Option FieldType) ({ frames := 5, cells := 2, slots := 264, locals := 74 } : Room) #[(.ref a), (.ref b)] h0 [a] (fun r h' => r = none ∧ ∃ (t : Nat), ∃ (kt : ClassId), ∃ (cd : Int32), ∃ (zz : Int32), ∃ (bs : List Value), (Exa Z h' a "java/lang/String") ∧ (Fld Z h' a "java/lang/String" "coder" "B" (.int cd)) ∧ (Fld Z h' a "java/lang/String" "value" "[B" (.ref t)) ∧ (Arv Z h' t kt .byte zz bs (.int (0 : Int32))) ∧ (h0.size ≤ t) ∧ (own_cod cs cd zz bs)) := by
  by_cases hf : own_fst cs = cs.length
  · refine (own_initL l Z a0 hw G n0 h0 O0 a b kb z vs cs hvs hz h1 hn (own_all_of_fst hf) gw0 q0 q1 q2 q3).mono ?_
    rintro r h' ⟨rfl, t, kt, r1, r2, r3, r4, r5⟩
    exact ⟨rfl, t, kt, _, _, _, r1, r2, r3, r4, r5, Or.inl ⟨hf, rfl, hz, rfl⟩⟩
  · have hj : own_fst cs < cs.length := by have := own_fst_le cs; omega
    refine (own_initU l Z a0 hw G n0 h0 O0 a b kb z vs cs hvs hz h1 hn hj gw0 q0 q1 q2 q3).mono ?_
    rintro r h' ⟨rfl, t, kt, r1, r2, r3, r4, r5⟩
    exact ⟨rfl, t, kt, _, _, _, r1, r2, r3, r4, r5, Or.inr ⟨hj, rfl, rfl, rfl⟩⟩
set_option maxRecDepth 65536 in
set_option maxHeartbeats 40000000 in
theorem own_init4E (l : Launch) (Z : State) (a0 : Array Value) (hw : ∀ d ∈ tables_1, d.before a0 Z = true) {zc : Int32} {fm : Value} {em : Nat}  (G : Gl Z zc fm em) (n0 : Nat) (h0 : Heap) (O0 : Old Z n0 h0) (a : Nat) (b : Nat) (gw0 : n0 ≤ a) (q0 : Exa Z h0 a "java/lang/String") (q1 : Fld Z h0 a "java/lang/String" "value" "[B" .null) (q2 : Fld Z h0 a "java/lang/String" "coder" "B" (.int (0 : Int32))) :
    MetH l [] Z EL n0 (⟨"java/lang/String", "<init>", "([CIILjava/lang/Void;)V"⟩ : MethodName) jdk_42_method_149_code 6 (Option.none : Option FieldType) ({ frames := 1, cells := 4, slots := 8, locals := 12 } : Room) #[(.ref a), (.ref b), (.int (0 : Int32)), (.int (0 : Int32)), .null] h0 [a] (fun r v' h' => r = none ∧ ∃ (t : Nat), ∃ (kt : ClassId), (Exa Z h' a "java/lang/String") ∧ (Fld Z h' a "java/lang/String" "coder" "B" (.int (0 : Int32))) ∧ (Fld Z h' a "java/lang/String" "value" "[B" (.ref t)) ∧ (Arv Z h' t kt .byte (0 : Int32) [] (.int (0 : Int32)))) := by
  refine metH (hEL hw) (plainFor_of_name pn_1) O0 (Ls := #[.val (.ref a), .val (.ref b), .val (.int (0 : Int32)), .val (.int (0 : Int32)), .val .null, .unset]) (fun m => by first | rfl | (simp [entryFrame, mkF, argsToLocals, Value.category]; done)) ?_
  intro p e s m below meth c T0 v0 X0 hSf
  have K0_h0 := Keep.refl h0 [a]
  have n0le := X0.n0le
  have ltq0 := own_n q0.lt
  have ltq1 := own_n q1.lt
  have ltq2 := own_n q2.lt
  have sf_0 := hSf a (List.mem_of_getElem? (i := 0) rfl)
  obtain ⟨G_cs, G_zc, G_fm, isref_fm, G_assertionsDisabled, G_HI_BYTE_SHIFT, G_LO_BYTE_SHIFT, GS_em, GE_em, GF_em⟩ := id G
  have oz := X0.old.1
  have ltz0 := own_n GE_em.lt
  refine k_aloadN X0 d_jdk_42_149_0 rfl rfl (pc' := 1) rfl ?_
  refine k_initO X0 d_jdk_42_149_1 (w_15 hw) (w_16 hw) (w_17 hw) rfl (by decide) (W := 0) (Nat.le_of_eq rfl) (by decide) (pc' := 4) rfl fun T100 X101 => ?_
  refine k_iloadN X101 d_jdk_42_149_4 rfl (pc' := 5) rfl ?_
  refine k_ifNo X101 d_jdk_42_149_5 (by decide) (pc' := 8) rfl ?_
  refine k_aloadN X101 d_jdk_42_149_8 rfl rfl (pc' := 9) rfl ?_
  refine k_ldcR X101 d_jdk_42_149_9 (w_101 hw) (own_wS hw) (List.mem_of_getElem? (i := 0) rfl) (vs := []) (z := (0 : Int32)) (by decide) (by decide) rfl (n := 0) (by decide) (by decide) (by decide) (by decide) (pc' := 11) rfl fun s102 bb102 kb102 v102 T102 h102 X102 K102 C102 E102 Fc102 Fv102 V102 nq102 => ?_
  have sz_h102 := K102.1
  have K0_h102 : Keep h0 h102 [a] := K0_h0.trans K102 all0
  have lt102 := own_n E102.lt
  have ltb102 := own_n V102.lt
  have c103 := (C102.safe (own_n (by omega)) sf_0)
  have na := nq102 a c103
  have na1 := own_ni na.1
  have na2 := own_ni na.2
  refine k_getF X102 d_jdk_42_149_11 (host := "") (Or.inl (w_32 hw)) Via.refl Fv102 (pc' := 14) rfl fun T104 X105 => ?_
  have c106 := (q1.keep K102 nin0)
  have c107 := (q0.keep K102)
  have ge109 : n0 ≤ a := by omega
  refine k_putF X105 d_jdk_42_149_14 (host := "") (Or.inl (w_32 hw)) Via.refl c106 c107 (Or.inr ⟨(w_33 hw), rfl, X105.hnm⟩) (w_6 hw) (ty := (.array .byte)) (by decide) rfl rfl c103 ge109 (pc' := 17) rfl fun T108 h108 L108 X108 W108 K108 => ?_
  have sz_h108 := K108.1
  have K0_h108 : Keep h0 h108 [a] := K0_h102.trans K108 (allS (Or.inl (List.mem_of_getElem? (i := 0) rfl)) all0)
  have F108 := c106.same W108
  refine k_aloadN X108 d_jdk_42_149_17 rfl rfl (pc' := 18) rfl ?_
  refine k_ldcR X108 d_jdk_42_149_18 (w_101 hw) (own_wS hw) (List.mem_of_getElem? (i := 0) rfl) (vs := []) (z := (0 : Int32)) (by decide) (by decide) rfl (n := 0) (by decide) (by decide) (by decide) (by decide) (pc' := 20) rfl fun s110 bb110 kb110 v110 T110 h110 X110 K110 C110 E110 Fc110 Fv110 V110 nq110 => ?_
  have sz_h110 := K110.1
  have K0_h110 : Keep h0 h110 [a] := K0_h108.trans K110 all0
  have lt110 := own_n E110.lt
  have ltb110 := own_n V110.lt
  have c111 := (C110.safe (own_n (by omega)) (X105.sf K108 (allS ⟨c103, ge109⟩ all0) c103))
  have nb := nq110 a c111
  have nb1 := own_ni nb.1
  have nb2 := own_ni nb.2
  refine k_getF X110 d_jdk_42_149_20 (host := "") (Or.inl (w_30 hw)) Via.refl Fc110 (pc' := 23) rfl fun T112 X113 => ?_
  have c114 := (((q2.keep K102 nin0).other W108 (Or.inr (slot_ne (Or.inr (w_31 hw)) (Or.inr (w_33 hw)) (by decide) (t := .byte) (t' := (.array .byte)) (by decide) (by decide)))).keep K110 nin0)
  have c115 := ((c107.keep K108).keep K110)
  have ge117 : n0 ≤ a := by omega
  refine k_putF X113 d_jdk_42_149_23 (host := "") (Or.inl (w_30 hw)) Via.refl c114 c115 (Or.inr ⟨(w_31 hw), rfl, X113.hnm⟩) (w_6 hw) (ty := .byte) (by decide) rfl rfl c111 ge117 (pc' := 26) rfl fun T116 h116 L116 X116 W116 K116 => ?_
  have sz_h116 := K116.1
  have K0_h116 : Keep h0 h116 [a] := K0_h110.trans K116 (allS (Or.inl (List.mem_of_getElem? (i := 0) rfl)) all0)
  have F116 := c114.same W116
  have c118 := (c115.keep K116)
  have c119 := ((F108.keep K110 nin0).other W116 (Or.inr (slot_ne (Or.inr (w_33 hw)) (Or.inr (w_31 hw)) (by decide) (t := (.array .byte)) (t' := .byte) (by decide) (by decide))))
  have c120 := (((V102.keep K108 (ninS (own_ne (by omega) : bb102 ≠ a) nin0)).keep K110 nin0).keep K116 (ninS (own_ne (by omega) : bb102 ≠ a) nin0))
  exact k_retHV X116 d_jdk_42_149_26 rfl K0_h116 (fun v' C' => ⟨rfl, _, _, c118, F116, c119, c120⟩) (by decide) (by decide)
set_option maxRecDepth 65536 in
set_option maxHeartbeats 40000000 in
theorem own_initE (l : Launch) (Z : State) (a0 : Array Value) (hw : ∀ d ∈ tables_1, d.before a0 Z = true) {zc : Int32} {fm : Value} {em : Nat}  (G : Gl Z zc fm em) (n0 : Nat) (h0 : Heap) (O0 : Old Z n0 h0) (a : Nat) (b : Nat) (kb : ClassId) (vs : List Value) (dv : Value) (gw0 : n0 ≤ a) (q0 : Exa Z h0 a "java/lang/String") (q1 : Fld Z h0 a "java/lang/String" "value" "[B" .null) (q2 : Fld Z h0 a "java/lang/String" "coder" "B" (.int (0 : Int32))) (q3 : Arv Z h0 b kb .char (0 : Int32) vs dv) :
    MetH l [] Z EL n0 (⟨"java/lang/String", "<init>", "([C)V"⟩ : MethodName) jdk_42_method_3_code 2 (Option.none : Option FieldType) ({ frames := 2, cells := 4, slots := 8, locals := 29 } : Room) #[(.ref a), (.ref b)] h0 [a] (fun r v' h' => r = none ∧ ∃ (t : Nat), ∃ (kt : ClassId), (Exa Z h' a "java/lang/String") ∧ (Fld Z h' a "java/lang/String" "coder" "B" (.int (0 : Int32))) ∧ (Fld Z h' a "java/lang/String" "value" "[B" (.ref t)) ∧ (Arv Z h' t kt .byte (0 : Int32) [] (.int (0 : Int32)))) := by
  refine metH (hEL hw) (plainFor_of_name pn_1) O0 (Ls := #[.val (.ref a), .val (.ref b)]) (fun m => by first | rfl | (simp [entryFrame, mkF, argsToLocals, Value.category]; done)) ?_
  intro p e s m below meth c T0 v0 X0 hSf
  have K0_h0 := Keep.refl h0 [a]
  have n0le := X0.n0le
  have ltq0 := own_n q0.lt
  have ltq1 := own_n q1.lt
  have ltq2 := own_n q2.lt
  have ltq3 := own_n q3.lt
  have sf_0 := hSf a (List.mem_of_getElem? (i := 0) rfl)
  obtain ⟨G_cs, G_zc, G_fm, isref_fm, G_assertionsDisabled, G_HI_BYTE_SHIFT, G_LO_BYTE_SHIFT, GS_em, GE_em, GF_em⟩ := id G
  have oz := X0.old.1
  have ltz0 := own_n GE_em.lt
  refine k_aloadN X0 d_jdk_42_3_0 rfl rfl (pc' := 1) rfl ?_
  refine k_aloadN X0 d_jdk_42_3_1 rfl rfl (pc' := 2) rfl ?_
  refine k_iconst X0 d_jdk_42_3_2 (w := (0 : Int32)) rfl (pc' := 3) rfl ?_
  refine k_aloadN X0 d_jdk_42_3_3 rfl rfl (pc' := 4) rfl ?_
  refine k_arlen X0 d_jdk_42_3_4 q3 (pc' := 5) rfl ?_
  refine k_aconstNull X0 d_jdk_42_3_5 (pc' := 6) rfl ?_
  have ge123 : n0 ≤ a := by omega
  refine k_callPNH X0 (y := (⟨"java/lang/String", "<init>", "([CIILjava/lang/Void;)V"⟩ : MethodName)) d_jdk_42_3_6 (w_11 hw) (w_12 hw) (w_7 hw) (w_14 hw) (by decide) rfl rfl (argsL := [(.ref b), (.int (0 : Int32)), (.int (0 : Int32)), .null]) (rest := []) (own_init4E l Z a0 hw G n0 h0 X0.old a b (by omega) q0 q1 q2) rfl pd_7 rfl rfl (by decide) (W := 0) (Nat.le_of_eq rfl) (by decide) (by decide) (by decide) (allS ⟨⟨own_n (by omega), sf_0⟩, ge123⟩ all0) (pc' := 9) rfl ?_
  rintro v124 T124 h124 L124 X124 K124 C124 ⟨t_121, kt_122, q124_0, q124_1, q124_2, q124_3⟩
  have sz_h124 := K124.1
  have K0_h124 : Keep h0 h124 [a] := K0_h0.trans K124 (allS (Or.inl (List.mem_of_getElem? (i := 0) rfl)) all0)
  have lt124_0 := own_n q124_0.lt
  have lt124_1 := own_n q124_1.lt
  have lt124_2 := own_n q124_2.lt
  have lt124_3 := own_n q124_3.lt
  exact k_retHV X124 d_jdk_42_3_9 rfl K0_h124 (fun v' C' => ⟨rfl, _, _, q124_0, q124_1, q124_2, q124_3⟩) (by decide) (by decide)
set_option maxRecDepth 65536 in
set_option maxHeartbeats 40000000 in
theorem own_coder (l : Launch) (Z : State) (a0 : Array Value) (hw : ∀ d ∈ tables_1, d.before a0 Z = true) {zc : Int32} {fm : Value} {em : Nat}  (G : Gl Z zc fm em) (n0 : Nat) (h0 : Heap) (O0 : Old Z n0 h0) (a : Nat) (cd : Int32) (hcd : cd = 0 ∨ cd = 1)  (q0 : Fld Z h0 a "java/lang/String" "coder" "B" (.int cd)) :
    MetF l [] Z n0 (⟨"java/lang/String", "coder", "()B"⟩ : MethodName) jdk_42_method_152_code 1 (Option.some FieldType.byte) ({ frames := 0, cells := 0, slots := 0, locals := 0 } : Room) #[(.ref a)] h0 [] (fun r h' => ∃ w, r = some w ∧ w = (.int cd) ∧ True) := by
  refine metF (plainFor_of_name pn_1) O0 (Ls := #[.val (.ref a)]) (fun m => by first | rfl | (simp [entryFrame, mkF, argsToLocals, Value.category]; done)) ?_
  intro p e s m below meth c T0 X0
  have K0_h0 := Keep.refl h0 []
  have n0le := X0.n0le
  have ltq0 := own_n q0.lt
  obtain ⟨G_cs, G_zc, G_fm, isref_fm, G_assertionsDisabled, G_HI_BYTE_SHIFT, G_LO_BYTE_SHIFT, GS_em, GE_em, GF_em⟩ := id G
  have oz := X0.old.1
  have ltz0 := own_n GE_em.lt
  refine k_getS X0 d_jdk_42_152_0 (host := "") (Or.inl (w_18 hw)) Via.refl (G_cs.ext X0.old.2) (pc' := 3) rfl fun T125 X126 => ?_
  refine k_ifNo X126 d_jdk_42_152_3 ((if0 _ _).trans (feq G_zc).1) (pc' := 6) rfl ?_
  refine k_aloadN X126 d_jdk_42_152_6 rfl rfl (pc' := 7) rfl ?_
  refine k_getF X126 d_jdk_42_152_7 (host := "") (Or.inl (w_30 hw)) Via.refl q0 (pc' := 10) rfl fun T127 X128 => ?_
  refine k_goto X128 d_jdk_42_152_10 (pc' := 14) (by decide) (by decide) ?_
  exact k_retFN X128 (w := cd) d_jdk_42_152_14 (t := .byte) rfl (by simp) (own_nar01 hcd) K0_h0 ⟨_, rfl, rfl, trivial⟩ (by decide) (by decide)
set_option maxRecDepth 65536 in
set_option maxHeartbeats 40000000 in
theorem own_isLat0 (l : Launch) (Z : State) (a0 : Array Value) (hw : ∀ d ∈ tables_1, d.before a0 Z = true) {zc : Int32} {fm : Value} {em : Nat}  (G : Gl Z zc fm em) (n0 : Nat) (h0 : Heap) (O0 : Old Z n0 h0) (a : Nat)  (q0 : Fld Z h0 a "java/lang/String" "coder" "B" (.int (0 : Int32))) :
    MetF l [] Z n0 (⟨"java/lang/String", "isLatin1", "()Z"⟩ : MethodName) jdk_42_method_154_code 1 (Option.some FieldType.boolean) ({ frames := 0, cells := 0, slots := 0, locals := 0 } : Room) #[(.ref a)] h0 [] (fun r h' => ∃ w, r = some w ∧ w = (.int (1 : Int32)) ∧ True) := by
  refine metF (plainFor_of_name pn_1) O0 (Ls := #[.val (.ref a)]) (fun m => by first | rfl | (simp [entryFrame, mkF, argsToLocals, Value.category]; done)) ?_
  intro p e s m below meth c T0 X0
  have K0_h0 := Keep.refl h0 []
  have n0le := X0.n0le
  have ltq0 := own_n q0.lt
  obtain ⟨G_cs, G_zc, G_fm, isref_fm, G_assertionsDisabled, G_HI_BYTE_SHIFT, G_LO_BYTE_SHIFT, GS_em, GE_em, GF_em⟩ := id G
  have oz := X0.old.1
  have ltz0 := own_n GE_em.lt
  refine k_getS X0 d_jdk_42_154_0 (host := "") (Or.inl (w_18 hw)) Via.refl (G_cs.ext X0.old.2) (pc' := 3) rfl fun T129 X130 => ?_
  refine k_ifNo X130 d_jdk_42_154_3 ((if0 _ _).trans (feq G_zc).1) (pc' := 6) rfl ?_
  refine k_aloadN X130 d_jdk_42_154_6 rfl rfl (pc' := 7) rfl ?_
  refine k_getF X130 d_jdk_42_154_7 (host := "") (Or.inl (w_30 hw)) Via.refl q0 (pc' := 10) rfl fun T131 X132 => ?_
  refine k_ifNo X132 d_jdk_42_154_10 (by decide) (pc' := 13) rfl ?_
  refine k_iconst X132 d_jdk_42_154_13 (w := (1 : Int32)) rfl (pc' := 14) rfl ?_
  refine k_goto X132 d_jdk_42_154_14 (pc' := 18) (by decide) (by decide) ?_
  exact k_retFN X132 (w := (1 : Int32)) d_jdk_42_154_18 (t := .boolean) rfl (by simp) rfl K0_h0 ⟨_, rfl, rfl, trivial⟩ (by decide) (by decide)
set_option maxRecDepth 65536 in
set_option maxHeartbeats 40000000 in
theorem own_isLat1 (l : Launch) (Z : State) (a0 : Array Value) (hw : ∀ d ∈ tables_1, d.before a0 Z = true) {zc : Int32} {fm : Value} {em : Nat}  (G : Gl Z zc fm em) (n0 : Nat) (h0 : Heap) (O0 : Old Z n0 h0) (a : Nat)  (q0 : Fld Z h0 a "java/lang/String" "coder" "B" (.int (1 : Int32))) :
    MetF l [] Z n0 (⟨"java/lang/String", "isLatin1", "()Z"⟩ : MethodName) jdk_42_method_154_code 1 (Option.some FieldType.boolean) ({ frames := 0, cells := 0, slots := 0, locals := 0 } : Room) #[(.ref a)] h0 [] (fun r h' => ∃ w, r = some w ∧ w = (.int (0 : Int32)) ∧ True) := by
  refine metF (plainFor_of_name pn_1) O0 (Ls := #[.val (.ref a)]) (fun m => by first | rfl | (simp [entryFrame, mkF, argsToLocals, Value.category]; done)) ?_
  intro p e s m below meth c T0 X0
  have K0_h0 := Keep.refl h0 []
  have n0le := X0.n0le
  have ltq0 := own_n q0.lt
  obtain ⟨G_cs, G_zc, G_fm, isref_fm, G_assertionsDisabled, G_HI_BYTE_SHIFT, G_LO_BYTE_SHIFT, GS_em, GE_em, GF_em⟩ := id G
  have oz := X0.old.1
  have ltz0 := own_n GE_em.lt
  refine k_getS X0 d_jdk_42_154_0 (host := "") (Or.inl (w_18 hw)) Via.refl (G_cs.ext X0.old.2) (pc' := 3) rfl fun T133 X134 => ?_
  refine k_ifNo X134 d_jdk_42_154_3 ((if0 _ _).trans (feq G_zc).1) (pc' := 6) rfl ?_
  refine k_aloadN X134 d_jdk_42_154_6 rfl rfl (pc' := 7) rfl ?_
  refine k_getF X134 d_jdk_42_154_7 (host := "") (Or.inl (w_30 hw)) Via.refl q0 (pc' := 10) rfl fun T135 X136 => ?_
  refine k_ifYes X136 d_jdk_42_154_10 (by decide) (pc' := 17) (by decide) (by decide) ?_
  refine k_iconst X136 d_jdk_42_154_17 (w := (0 : Int32)) rfl (pc' := 18) rfl ?_
  exact k_retFN X136 (w := (0 : Int32)) d_jdk_42_154_18 (t := .boolean) rfl (by simp) rfl K0_h0 ⟨_, rfl, rfl, trivial⟩ (by decide) (by decide)
set_option maxRecDepth 65536 in
set_option maxHeartbeats 40000000 in
theorem own_len (l : Launch) (Z : State) (a0 : Array Value) (hw : ∀ d ∈ tables_1, d.before a0 Z = true) {zc : Int32} {fm : Value} {em : Nat}  (G : Gl Z zc fm em) (n0 : Nat) (h0 : Heap) (O0 : Old Z n0 h0) (a : Nat) (t : Nat) (kt : ClassId) (cd : Int32) (zz : Int32) (bs : List Value) (cs : List Int32) (hn : cs.length < 1073741824)  (q0 : Exa Z h0 a "java/lang/String") (q1 : Fld Z h0 a "java/lang/String" "value" "[B" (.ref t)) (q2 : Fld Z h0 a "java/lang/String" "coder" "B" (.int cd)) (q3 : Arv Z h0 t kt .byte zz bs (.int (0 : Int32))) (q4 : own_cod cs cd zz bs) :
    MetF l [] Z n0 (⟨"java/lang/String", "length", "()I"⟩ : MethodName) jdk_42_method_54_code 1 (Option.some FieldType.int) ({ frames := 1, cells := 0, slots := 0, locals := 13 } : Room) #[(.ref a)] h0 [] (fun r h' => ∃ w, r = some w ∧ w = (.int (Int32.ofNat cs.length)) ∧ True) := by
  refine metF (plainFor_of_name pn_1) O0 (Ls := #[.val (.ref a)]) (fun m => by first | rfl | (simp [entryFrame, mkF, argsToLocals, Value.category]; done)) ?_
  intro p e s m below meth c T0 X0
  have K0_h0 := Keep.refl h0 []
  have n0le := X0.n0le
  have ltq0 := own_n q0.lt
  have ltq1 := own_n q1.lt
  have ltq2 := own_n q2.lt
  have ltq3 := own_n q3.lt
  obtain ⟨G_cs, G_zc, G_fm, isref_fm, G_assertionsDisabled, G_HI_BYTE_SHIFT, G_LO_BYTE_SHIFT, GS_em, GE_em, GF_em⟩ := id G
  have oz := X0.old.1
  have ltz0 := own_n GE_em.lt
  refine k_aloadN X0 d_jdk_42_54_0 rfl rfl (pc' := 1) rfl ?_
  refine k_getF X0 d_jdk_42_54_1 (host := "") (Or.inl (w_32 hw)) Via.refl q1 (pc' := 4) rfl fun T137 X138 => ?_
  refine k_arlen X138 d_jdk_42_54_4 q3 (pc' := 5) rfl ?_
  refine k_aloadN X138 d_jdk_42_54_5 rfl rfl (pc' := 6) rfl ?_
  refine k_callVVF X138 (y := (⟨"java/lang/String", "coder", "()B"⟩ : MethodName)) d_jdk_42_54_6 (w_43 hw) (w_44 hw) (w_46 hw) (w_45 hw) (w_7 hw) (w_47 hw) (by decide) (notFace_of_selects (args := #[]) (mvT X138.hZ (w_46 hw))) q0 (argsL := []) (rest := [(.int zz)]) (own_coder l Z a0 hw G n0 h0 X138.old a cd (own_cod_cd q4) q2) rfl pd_8 rfl rfl (by decide) (W := 1) (Nat.le_of_eq rfl) (by decide) (by decide) (by decide) all0 (pc' := 9) rfl ?_
  rintro _ T139 h139 L139 X139 K139 ⟨rfl, -⟩
  have sz_h139 := K139.1
  have K0_h139 : Keep h0 h139 [] := K0_h0.trans K139 all0
  refine k_ishr X139 d_jdk_42_54_9 (w := (Int32.ofNat cs.length)) (own_cod_len q4 hn) (pc' := 10) rfl ?_
  exact k_retFI X139 d_jdk_42_54_10 rfl K0_h139 ⟨_, rfl, rfl, trivial⟩ (by decide) (by decide)
set_option maxRecDepth 65536 in
set_option maxHeartbeats 40000000 in
theorem own_pci (l : Launch) (Z : State) (a0 : Array Value) (hw : ∀ d ∈ tables_1, d.before a0 Z = true) {zc : Int32} {fm : Value} {em : Nat}  (G : Gl Z zc fm em) (n0 : Nat) (h0 : Heap) (O0 : Old Z n0 h0) (i : Int32) (n : Int32) (f : Value) (hf : f.isRef = true) (hi0 : ¬ i < 0) (hi1 : i < n)   :
    MetF l [] Z n0 (⟨"jdk/internal/util/Preconditions", "checkIndex", "(IILjava/util/function/BiFunction;)I"⟩ : MethodName) jdk_41_method_11_code 3 (Option.some FieldType.int) ({ frames := 0, cells := 0, slots := 0, locals := 0 } : Room) #[(.int i), (.int n), f] h0 [] (fun r h' => ∃ w, r = some w ∧ w = (.int i) ∧ True) := by
  rcases ref_cases hf with rfl | ⟨z, rfl⟩
  · refine metF (plainFor_of_name pn_2) O0 (Ls := #[.val (.int i), .val (.int n), .val .null]) (fun m => by first | rfl | (simp [entryFrame, mkF, argsToLocals, Value.category]; done)) ?_
    intro p e s m below meth c T0 X0
    have K0_h0 := Keep.refl h0 []
    have n0le := X0.n0le
    obtain ⟨G_cs, G_zc, G_fm, isref_fm, G_assertionsDisabled, G_HI_BYTE_SHIFT, G_LO_BYTE_SHIFT, GS_em, GE_em, GF_em⟩ := id G
    have oz := X0.old.1
    have ltz0 := own_n GE_em.lt
    refine k_iloadN X0 d_jdk_41_11_0 rfl (pc' := 1) rfl ?_
    refine k_ifNo X0 d_jdk_41_11_1 ((if0 _ _).trans (flt hi0).1) (pc' := 4) rfl ?_
    refine k_iloadN X0 d_jdk_41_11_4 rfl (pc' := 5) rfl ?_
    refine k_iloadN X0 d_jdk_41_11_5 rfl (pc' := 6) rfl ?_
    refine k_icmpYes X0 d_jdk_41_11_6 (tlt hi1).1 (pc' := 16) (by decide) (by decide) ?_
    refine k_iloadN X0 d_jdk_41_11_16 rfl (pc' := 17) rfl ?_
    exact k_retFI X0 d_jdk_41_11_17 rfl K0_h0 ⟨_, rfl, rfl, trivial⟩ (by decide) (by decide)
  · refine metF (plainFor_of_name pn_2) O0 (Ls := #[.val (.int i), .val (.int n), .val (.ref z)]) (fun m => by first | rfl | (simp [entryFrame, mkF, argsToLocals, Value.category]; done)) ?_
    intro p e s m below meth c T0 X0
    have K0_h0 := Keep.refl h0 []
    have n0le := X0.n0le
    obtain ⟨G_cs, G_zc, G_fm, isref_fm, G_assertionsDisabled, G_HI_BYTE_SHIFT, G_LO_BYTE_SHIFT, GS_em, GE_em, GF_em⟩ := id G
    have oz := X0.old.1
    have ltz0 := own_n GE_em.lt
    refine k_iloadN X0 d_jdk_41_11_0 rfl (pc' := 1) rfl ?_
    refine k_ifNo X0 d_jdk_41_11_1 ((if0 _ _).trans (flt hi0).1) (pc' := 4) rfl ?_
    refine k_iloadN X0 d_jdk_41_11_4 rfl (pc' := 5) rfl ?_
    refine k_iloadN X0 d_jdk_41_11_5 rfl (pc' := 6) rfl ?_
    refine k_icmpYes X0 d_jdk_41_11_6 (tlt hi1).1 (pc' := 16) (by decide) (by decide) ?_
    refine k_iloadN X0 d_jdk_41_11_16 rfl (pc' := 17) rfl ?_
    exact k_retFI X0 d_jdk_41_11_17 rfl K0_h0 ⟨_, rfl, rfl, trivial⟩ (by decide) (by decide)
set_option maxRecDepth 65536 in
set_option maxHeartbeats 40000000 in
theorem own_sci (l : Launch) (Z : State) (a0 : Array Value) (hw : ∀ d ∈ tables_1, d.before a0 Z = true) {zc : Int32} {fm : Value} {em : Nat}  (G : Gl Z zc fm em) (n0 : Nat) (h0 : Heap) (O0 : Old Z n0 h0) (i : Int32) (n : Int32) (hi0 : ¬ i < 0) (hi1 : i < n)   :
    MetF l [] Z n0 (⟨"java/lang/String", "checkIndex", "(II)V"⟩ : MethodName) jdk_42_method_155_code 2 (Option.none : Option FieldType) ({ frames := 1, cells := 0, slots := 0, locals := 14 } : Room) #[(.int i), (.int n)] h0 [] (fun r h' => r = none ∧ True) := by
  refine metF (plainFor_of_name pn_1) O0 (Ls := #[.val (.int i), .val (.int n)]) (fun m => by first | rfl | (simp [entryFrame, mkF, argsToLocals, Value.category]; done)) ?_
  intro p e s m below meth c T0 X0
  have K0_h0 := Keep.refl h0 []
  have n0le := X0.n0le
  obtain ⟨G_cs, G_zc, G_fm, isref_fm, G_assertionsDisabled, G_HI_BYTE_SHIFT, G_LO_BYTE_SHIFT, GS_em, GE_em, GF_em⟩ := id G
  have oz := X0.old.1
  have ltz0 := own_n GE_em.lt
  refine k_iloadN X0 d_jdk_42_155_0 rfl (pc' := 1) rfl ?_
  refine k_iloadN X0 d_jdk_42_155_1 rfl (pc' := 2) rfl ?_
  refine k_getS X0 d_jdk_42_155_2 (host := "") (Or.inl (w_65 hw)) Via.refl (G_fm.ext X0.old.2) (pc' := 5) rfl fun T141 X142 => ?_
  refine k_callSVF X142 (y := (⟨"jdk/internal/util/Preconditions", "checkIndex", "(IILjava/util/function/BiFunction;)I"⟩ : MethodName)) d_jdk_42_155_5 (w_67 hw) (w_68 hw) (w_66 hw) (w_69 hw) (by decide) (argsL := [(.int i), (.int n), fm]) (rest := []) (own_pci l Z a0 hw G n0 h0 X142.old i n fm isref_fm hi0 hi1 ) rfl pd_9 rfl rfl (by decide) (W := 0) (Nat.le_of_eq rfl) (by decide) (by decide) (by decide) all0 (pc' := 8) rfl ?_
  rintro _ T143 h143 L143 X143 K143 ⟨rfl, -⟩
  have sz_h143 := K143.1
  have K0_h143 : Keep h0 h143 [] := K0_h0.trans K143 all0
  refine k_pop X143 d_jdk_42_155_8 rfl (pc' := 9) rfl ?_
  exact k_retFV X143 d_jdk_42_155_9 rfl K0_h143 ⟨rfl, trivial⟩ (by decide) (by decide)
set_option maxRecDepth 65536 in
set_option maxHeartbeats 40000000 in
theorem own_lcharAt (l : Launch) (Z : State) (a0 : Array Value) (hw : ∀ d ∈ tables_1, d.before a0 Z = true) {zc : Int32} {fm : Value} {em : Nat}  (G : Gl Z zc fm em) (n0 : Nat) (h0 : Heap) (O0 : Old Z n0 h0) (d : Nat) (kd : ClassId) (zz : Int32) (cs : List Int32) (i : Nat) (iv : Int32) (hiv : iv = Int32.ofNat i) (hi : i < cs.length) (hzz : zz = Int32.ofNat cs.length) (hb0 : cs.length < 2147483648) (hr : ¬ cs.getD i 0 < 0 ∧ ¬ 255 < cs.getD i 0)  (q0 : Arv Z h0 d kd .byte zz (own_lat cs) (.int (0 : Int32))) :
    MetF l [] Z n0 (⟨"java/lang/StringLatin1", "charAt", "([BI)C"⟩ : MethodName) jdk_43_method_2_code 2 (Option.some FieldType.char) ({ frames := 2, cells := 0, slots := 0, locals := 27 } : Room) #[(.ref d), (.int iv)] h0 [] (fun r h' => ∃ w, r = some w ∧ w = (.int (cs.getD i 0)) ∧ True) := by
  subst hiv
  refine metF (plainFor_of_name pn_3) O0 (Ls := #[.val (.ref d), .val (.int (Int32.ofNat i))]) (fun m => by first | rfl | (simp [entryFrame, mkF, argsToLocals, Value.category]; done)) ?_
  intro p e s m below meth c T0 X0
  have K0_h0 := Keep.refl h0 []
  have n0le := X0.n0le
  have ltq0 := own_n q0.lt
  obtain ⟨G_cs, G_zc, G_fm, isref_fm, G_assertionsDisabled, G_HI_BYTE_SHIFT, G_LO_BYTE_SHIFT, GS_em, GE_em, GF_em⟩ := id G
  have oz := X0.old.1
  have ltz0 := own_n GE_em.lt
  have l1 := own_lt hi hb0
  rw [← hzz] at l1
  refine k_iloadN X0 d_jdk_43_2_0 rfl (pc' := 1) rfl ?_
  refine k_aloadN X0 d_jdk_43_2_1 rfl rfl (pc' := 2) rfl ?_
  refine k_arlen X0 d_jdk_43_2_2 q0 (pc' := 3) rfl ?_
  refine k_callSNF X0 (y := (⟨"java/lang/String", "checkIndex", "(II)V"⟩ : MethodName)) d_jdk_43_2_3 (w_62 hw) (w_63 hw) (w_7 hw) (w_64 hw) (by decide) (argsL := [(.int (Int32.ofNat i)), (.int zz)]) (rest := []) (own_sci l Z a0 hw G n0 h0 X0.old (Int32.ofNat i) zz (own_nn (by omega)) l1 ) rfl pd_10 rfl rfl (by decide) (W := 0) (Nat.le_of_eq rfl) (by decide) (by decide) (by decide) all0 (pc' := 6) rfl ?_
  rintro T145 h145 L145 X145 K145 -
  have sz_h145 := K145.1
  have K0_h145 : Keep h0 h145 [] := K0_h0.trans K145 all0
  refine k_aloadN X145 d_jdk_43_2_6 rfl rfl (pc' := 7) rfl ?_
  refine k_iloadN X145 d_jdk_43_2_7 rfl (pc' := 8) rfl ?_
  have c146 := (q0.keep K145 nin0)
  refine k_baload X145 d_jdk_43_2_8 c146 (own_nn (by omega)) l1 (v := (.int ((cs.getD i 0).toInt8.toInt32))) (own_latget cs hi (by omega)) (pc' := 9) rfl ?_
  refine k_sipush X145 d_jdk_43_2_9 (w := (255 : Int32)) rfl (pc' := 12) rfl ?_
  refine k_iand X145 d_jdk_43_2_12 (w := (((cs.getD i 0).toInt8.toInt32) &&& (255 : Int32))) rfl (pc' := 13) rfl ?_
  refine k_i2c X145 d_jdk_43_2_13 (w := (cs.getD i 0)) (own_back8 hr.1 hr.2) (pc' := 14) rfl ?_
  exact k_retFN X145 (w := (cs.getD i 0)) d_jdk_43_2_14 (t := .char) rfl (by simp) (own_i2c_id hr.1 (own_255 hr.2)) K0_h145 ⟨_, rfl, rfl, trivial⟩ (by decide) (by decide)
set_option maxRecDepth 65536 in
set_option maxHeartbeats 40000000 in
theorem own_ulen (l : Launch) (Z : State) (a0 : Array Value) (hw : ∀ d ∈ tables_1, d.before a0 Z = true) {zc : Int32} {fm : Value} {em : Nat}  (G : Gl Z zc fm em) (n0 : Nat) (h0 : Heap) (O0 : Old Z n0 h0) (d : Nat) (kd : ClassId) (n : Nat) (bs : List Value) (dv : Value) (hn : n < 1073741824)  (q0 : Arv Z h0 d kd .byte (Int32.ofNat (2 * n)) bs dv) :
    MetF l [] Z n0 (⟨"java/lang/StringUTF16", "length", "([B)I"⟩ : MethodName) jdk_52_method_6_code 1 (Option.some FieldType.int) ({ frames := 0, cells := 0, slots := 0, locals := 0 } : Room) #[(.ref d)] h0 [] (fun r h' => ∃ w, r = some w ∧ w = (.int (Int32.ofNat n)) ∧ True) := by
  refine metF (plainFor_of_name pn_0) O0 (Ls := #[.val (.ref d)]) (fun m => by first | rfl | (simp [entryFrame, mkF, argsToLocals, Value.category]; done)) ?_
  intro p e s m below meth c T0 X0
  have K0_h0 := Keep.refl h0 []
  have n0le := X0.n0le
  have ltq0 := own_n q0.lt
  obtain ⟨G_cs, G_zc, G_fm, isref_fm, G_assertionsDisabled, G_HI_BYTE_SHIFT, G_LO_BYTE_SHIFT, GS_em, GE_em, GF_em⟩ := id G
  have oz := X0.old.1
  have ltz0 := own_n GE_em.lt
  refine k_aloadN X0 d_jdk_52_6_0 rfl rfl (pc' := 1) rfl ?_
  refine k_arlen X0 d_jdk_52_6_1 q0 (pc' := 2) rfl ?_
  refine k_iconst X0 d_jdk_52_6_2 (w := (1 : Int32)) rfl (pc' := 3) rfl ?_
  refine k_ishr X0 d_jdk_52_6_3 (w := (Int32.ofNat n)) (own_shr1 hn) (pc' := 4) rfl ?_
  exact k_retFI X0 d_jdk_52_6_4 rfl K0_h0 ⟨_, rfl, rfl, trivial⟩ (by decide) (by decide)
set_option maxRecDepth 65536 in
set_option maxHeartbeats 40000000 in
theorem own_uci (l : Launch) (Z : State) (a0 : Array Value) (hw : ∀ d ∈ tables_1, d.before a0 Z = true) {zc : Int32} {fm : Value} {em : Nat}  (G : Gl Z zc fm em) (n0 : Nat) (h0 : Heap) (O0 : Old Z n0 h0) (iv : Int32) (d : Nat) (kd : ClassId) (n : Nat) (bs : List Value) (dv : Value) (hn : n < 1073741824) (hi0 : ¬ iv < 0) (hi1 : iv < Int32.ofNat n)  (q0 : Arv Z h0 d kd .byte (Int32.ofNat (2 * n)) bs dv) :
    MetF l [] Z n0 (⟨"java/lang/StringUTF16", "checkIndex", "(I[B)V"⟩ : MethodName) jdk_52_method_91_code 2 (Option.none : Option FieldType) ({ frames := 2, cells := 0, slots := 0, locals := 27 } : Room) #[(.int iv), (.ref d)] h0 [] (fun r h' => r = none ∧ True) := by
  refine metF (plainFor_of_name pn_0) O0 (Ls := #[.val (.int iv), .val (.ref d)]) (fun m => by first | rfl | (simp [entryFrame, mkF, argsToLocals, Value.category]; done)) ?_
  intro p e s m below meth c T0 X0
  have K0_h0 := Keep.refl h0 []
  have n0le := X0.n0le
  have ltq0 := own_n q0.lt
  obtain ⟨G_cs, G_zc, G_fm, isref_fm, G_assertionsDisabled, G_HI_BYTE_SHIFT, G_LO_BYTE_SHIFT, GS_em, GE_em, GF_em⟩ := id G
  have oz := X0.old.1
  have ltz0 := own_n GE_em.lt
  refine k_iloadN X0 d_jdk_52_91_0 rfl (pc' := 1) rfl ?_
  refine k_aloadN X0 d_jdk_52_91_1 rfl rfl (pc' := 2) rfl ?_
  refine k_callSVF X0 (y := (⟨"java/lang/StringUTF16", "length", "([B)I"⟩ : MethodName)) d_jdk_52_91_2 (w_110 hw) (w_111 hw) (w_21 hw) (w_112 hw) (by decide) (argsL := [(.ref d)]) (rest := [(.int iv)]) (own_ulen l Z a0 hw G n0 h0 X0.old d kd n bs dv hn q0) rfl pd_11 rfl rfl (by decide) (W := 1) (Nat.le_of_eq rfl) (by decide) (by decide) (by decide) all0 (pc' := 5) rfl ?_
  rintro _ T147 h147 L147 X147 K147 ⟨rfl, -⟩
  have sz_h147 := K147.1
  have K0_h147 : Keep h0 h147 [] := K0_h0.trans K147 all0
  refine k_callSNF X147 (y := (⟨"java/lang/String", "checkIndex", "(II)V"⟩ : MethodName)) d_jdk_52_91_5 (w_113 hw) (w_63 hw) (w_7 hw) (w_64 hw) (by decide) (argsL := [(.int iv), (.int (Int32.ofNat n))]) (rest := []) (own_sci l Z a0 hw G n0 h147 X147.old iv (Int32.ofNat n) hi0 hi1 ) rfl pd_10 rfl rfl (by decide) (W := 0) (Nat.le_of_eq rfl) (by decide) (by decide) (by decide) all0 (pc' := 8) rfl ?_
  rintro T149 h149 L149 X149 K149 -
  have sz_h149 := K149.1
  have K0_h149 : Keep h0 h149 [] := K0_h147.trans K149 all0
  exact k_retFV X149 d_jdk_52_91_8 rfl K0_h149 ⟨rfl, trivial⟩ (by decide) (by decide)
set_option maxRecDepth 65536 in
set_option maxHeartbeats 40000000 in
theorem own_ucharAt (l : Launch) (Z : State) (a0 : Array Value) (hw : ∀ d ∈ tables_1, d.before a0 Z = true) {zc : Int32} {fm : Value} {em : Nat}  (G : Gl Z zc fm em) (n0 : Nat) (h0 : Heap) (O0 : Old Z n0 h0) (d : Nat) (kd : ClassId) (cs : List Int32) (i : Nat) (iv : Int32) (hiv : iv = Int32.ofNat i) (hi : i < cs.length) (hb0 : 2 * cs.length < 2147483648) (hr : ¬ cs.getD i 0 < 0 ∧ ¬ 65535 < cs.getD i 0)  (q0 : Arv Z h0 d kd .byte (Int32.ofNat (2 * cs.length)) (own_u16 cs) (.int (0 : Int32))) :
    MetF l [] Z n0 (⟨"java/lang/StringUTF16", "charAt", "([BI)C"⟩ : MethodName) jdk_52_method_83_code 2 (Option.some FieldType.char) ({ frames := 3, cells := 0, slots := 0, locals := 40 } : Room) #[(.ref d), (.int iv)] h0 [] (fun r h' => ∃ w, r = some w ∧ w = (.int (cs.getD i 0)) ∧ True) := by
  subst hiv
  refine metF (plainFor_of_name pn_0) O0 (Ls := #[.val (.ref d), .val (.int (Int32.ofNat i))]) (fun m => by first | rfl | (simp [entryFrame, mkF, argsToLocals, Value.category]; done)) ?_
  intro p e s m below meth c T0 X0
  have K0_h0 := Keep.refl h0 []
  have n0le := X0.n0le
  have ltq0 := own_n q0.lt
  obtain ⟨G_cs, G_zc, G_fm, isref_fm, G_assertionsDisabled, G_HI_BYTE_SHIFT, G_LO_BYTE_SHIFT, GS_em, GE_em, GF_em⟩ := id G
  have oz := X0.old.1
  have ltz0 := own_n GE_em.lt
  have l1 := own_lt hi (by omega)
  refine k_iloadN X0 d_jdk_52_83_0 rfl (pc' := 1) rfl ?_
  refine k_aloadN X0 d_jdk_52_83_1 rfl rfl (pc' := 2) rfl ?_
  refine k_callSNF X0 (y := (⟨"java/lang/StringUTF16", "checkIndex", "(I[B)V"⟩ : MethodName)) d_jdk_52_83_2 (w_107 hw) (w_108 hw) (w_21 hw) (w_109 hw) (by decide) (argsL := [(.int (Int32.ofNat i)), (.ref d)]) (rest := []) (own_uci l Z a0 hw G n0 h0 X0.old (Int32.ofNat i) d kd (cs.length) (own_u16 cs) (.int (0 : Int32)) (by omega) (own_nn (by omega)) l1 q0) rfl pd_12 rfl rfl (by decide) (W := 0) (Nat.le_of_eq rfl) (by decide) (by decide) (by decide) all0 (pc' := 5) rfl ?_
  rintro T150 h150 L150 X150 K150 -
  have sz_h150 := K150.1
  have K0_h150 : Keep h0 h150 [] := K0_h0.trans K150 all0
  refine k_aloadN X150 d_jdk_52_83_5 rfl rfl (pc' := 6) rfl ?_
  refine k_iloadN X150 d_jdk_52_83_6 rfl (pc' := 7) rfl ?_
  have c151 := (q0.keep K150 nin0)
  refine k_callSVF X150 (y := (⟨"java/lang/StringUTF16", "getChar", "([BI)C"⟩ : MethodName)) d_jdk_52_83_7 (w_98 hw) (w_99 hw) (w_21 hw) (w_100 hw) (by decide) (argsL := [(.ref d), (.int (Int32.ofNat i))]) (rest := []) (own_getC l Z a0 hw G n0 h150 X150.old d kd (Int32.ofNat (2 * cs.length)) cs i (Int32.ofNat i) rfl hi rfl hb0 hr c151) rfl pd_6 rfl rfl (by decide) (W := 0) (Nat.le_of_eq rfl) (by decide) (by decide) (by decide) all0 (pc' := 10) rfl ?_
  rintro _ T152 h152 L152 X152 K152 ⟨rfl, -⟩
  have sz_h152 := K152.1
  have K0_h152 : Keep h0 h152 [] := K0_h150.trans K152 all0
  exact k_retFN X152 (w := (cs.getD i 0)) d_jdk_52_83_10 (t := .char) rfl (by simp) (own_i2c_id hr.1 hr.2) K0_h152 ⟨_, rfl, rfl, trivial⟩ (by decide) (by decide)
set_option maxRecDepth 65536 in
set_option maxHeartbeats 40000000 in
theorem own_charAt (l : Launch) (Z : State) (a0 : Array Value) (hw : ∀ d ∈ tables_1, d.before a0 Z = true) {zc : Int32} {fm : Value} {em : Nat}  (G : Gl Z zc fm em) (n0 : Nat) (h0 : Heap) (O0 : Old Z n0 h0) (a : Nat) (t : Nat) (kt : ClassId) (cd : Int32) (zz : Int32) (bs : List Value) (cs : List Int32) (i : Nat) (iv : Int32) (hiv : iv = Int32.ofNat i) (hi : i < cs.length) (hn : cs.length < 1073741823) (hr : ¬ cs.getD i 0 < 0 ∧ ¬ 65535 < cs.getD i 0)  (q0 : Exa Z h0 a "java/lang/String") (q1 : Fld Z h0 a "java/lang/String" "value" "[B" (.ref t)) (q2 : Fld Z h0 a "java/lang/String" "coder" "B" (.int cd)) (q3 : Arv Z h0 t kt .byte zz bs (.int (0 : Int32))) (q4 : own_cod cs cd zz bs) :
    MetF l [] Z n0 (⟨"java/lang/String", "charAt", "(I)C"⟩ : MethodName) jdk_42_method_56_code 2 (Option.some FieldType.char) ({ frames := 4, cells := 0, slots := 0, locals := 53 } : Room) #[(.ref a), (.int iv)] h0 [] (fun r h' => ∃ w, r = some w ∧ w = (.int (cs.getD i 0)) ∧ True) := by
  subst hiv
  rcases q4 with ⟨hf, rfl, rfl, rfl⟩ | ⟨hf, rfl, rfl, rfl⟩
  · refine metF (plainFor_of_name pn_1) O0 (Ls := #[.val (.ref a), .val (.int (Int32.ofNat i))]) (fun m => by first | rfl | (simp [entryFrame, mkF, argsToLocals, Value.category]; done)) ?_
    intro p e s m below meth c T0 X0
    have K0_h0 := Keep.refl h0 []
    have n0le := X0.n0le
    have ltq0 := own_n q0.lt
    have ltq1 := own_n q1.lt
    have ltq2 := own_n q2.lt
    have ltq3 := own_n q3.lt
    obtain ⟨G_cs, G_zc, G_fm, isref_fm, G_assertionsDisabled, G_HI_BYTE_SHIFT, G_LO_BYTE_SHIFT, GS_em, GE_em, GF_em⟩ := id G
    have oz := X0.old.1
    have ltz0 := own_n GE_em.lt
    have hr2 : ¬ cs.getD i 0 < 0 ∧ ¬ 255 < cs.getD i 0 := ⟨hr.1, own_lat_rng hf hi⟩
    refine k_aloadN X0 d_jdk_42_56_0 rfl rfl (pc' := 1) rfl ?_
    refine k_callVVF X0 (y := (⟨"java/lang/String", "isLatin1", "()Z"⟩ : MethodName)) d_jdk_42_56_1 (w_53 hw) (w_54 hw) (w_56 hw) (w_55 hw) (w_7 hw) (w_57 hw) (by decide) (notFace_of_selects (args := #[]) (mvT X0.hZ (w_56 hw))) q0 (argsL := []) (rest := []) (own_isLat0 l Z a0 hw G n0 h0 X0.old a q2) rfl pd_13 rfl rfl (by decide) (W := 0) (Nat.le_of_eq rfl) (by decide) (by decide) (by decide) all0 (pc' := 4) rfl ?_
    rintro _ T154 h154 L154 X154 K154 ⟨rfl, -⟩
    have sz_h154 := K154.1
    have K0_h154 : Keep h0 h154 [] := K0_h0.trans K154 all0
    refine k_ifNo X154 d_jdk_42_56_4 (by decide) (pc' := 7) rfl ?_
    refine k_aloadN X154 d_jdk_42_56_7 rfl rfl (pc' := 8) rfl ?_
    have c156 := (q1.keep K154 nin0)
    refine k_getF X154 d_jdk_42_56_8 (host := "") (Or.inl (w_32 hw)) Via.refl c156 (pc' := 11) rfl fun T157 X158 => ?_
    refine k_iloadN X158 d_jdk_42_56_11 rfl (pc' := 12) rfl ?_
    have c159 := (q3.keep K154 nin0)
    refine k_callSVF X158 (y := (⟨"java/lang/StringLatin1", "charAt", "([BI)C"⟩ : MethodName)) d_jdk_42_56_12 (w_58 hw) (w_59 hw) (w_60 hw) (w_61 hw) (by decide) (argsL := [(.ref t), (.int (Int32.ofNat i))]) (rest := []) (own_lcharAt l Z a0 hw G n0 h154 X158.old t kt (Int32.ofNat cs.length) cs i (Int32.ofNat i) rfl hi rfl (by omega) hr2 c159) rfl pd_6 rfl rfl (by decide) (W := 0) (Nat.le_of_eq rfl) (by decide) (by decide) (by decide) all0 (pc' := 15) rfl ?_
    rintro _ T160 h160 L160 X160 K160 ⟨rfl, -⟩
    have sz_h160 := K160.1
    have K0_h160 : Keep h0 h160 [] := K0_h154.trans K160 all0
    exact k_retFN X160 (w := (cs.getD i 0)) d_jdk_42_56_15 (t := .char) rfl (by simp) (own_i2c_id hr.1 hr.2) K0_h160 ⟨_, rfl, rfl, trivial⟩ (by decide) (by decide)
  · refine metF (plainFor_of_name pn_1) O0 (Ls := #[.val (.ref a), .val (.int (Int32.ofNat i))]) (fun m => by first | rfl | (simp [entryFrame, mkF, argsToLocals, Value.category]; done)) ?_
    intro p e s m below meth c T0 X0
    have K0_h0 := Keep.refl h0 []
    have n0le := X0.n0le
    have ltq0 := own_n q0.lt
    have ltq1 := own_n q1.lt
    have ltq2 := own_n q2.lt
    have ltq3 := own_n q3.lt
    obtain ⟨G_cs, G_zc, G_fm, isref_fm, G_assertionsDisabled, G_HI_BYTE_SHIFT, G_LO_BYTE_SHIFT, GS_em, GE_em, GF_em⟩ := id G
    have oz := X0.old.1
    have ltz0 := own_n GE_em.lt
    refine k_aloadN X0 d_jdk_42_56_0 rfl rfl (pc' := 1) rfl ?_
    refine k_callVVF X0 (y := (⟨"java/lang/String", "isLatin1", "()Z"⟩ : MethodName)) d_jdk_42_56_1 (w_53 hw) (w_54 hw) (w_56 hw) (w_55 hw) (w_7 hw) (w_57 hw) (by decide) (notFace_of_selects (args := #[]) (mvT X0.hZ (w_56 hw))) q0 (argsL := []) (rest := []) (own_isLat1 l Z a0 hw G n0 h0 X0.old a q2) rfl pd_13 rfl rfl (by decide) (W := 0) (Nat.le_of_eq rfl) (by decide) (by decide) (by decide) all0 (pc' := 4) rfl ?_
    rintro _ T162 h162 L162 X162 K162 ⟨rfl, -⟩
    have sz_h162 := K162.1
    have K0_h162 : Keep h0 h162 [] := K0_h0.trans K162 all0
    refine k_ifYes X162 d_jdk_42_56_4 (by decide) (pc' := 16) (by decide) (by decide) ?_
    refine k_aloadN X162 d_jdk_42_56_16 rfl rfl (pc' := 17) rfl ?_
    have c164 := (q1.keep K162 nin0)
    refine k_getF X162 d_jdk_42_56_17 (host := "") (Or.inl (w_32 hw)) Via.refl c164 (pc' := 20) rfl fun T165 X166 => ?_
    refine k_iloadN X166 d_jdk_42_56_20 rfl (pc' := 21) rfl ?_
    have c167 := (q3.keep K162 nin0)
    refine k_callSVF X166 (y := (⟨"java/lang/StringUTF16", "charAt", "([BI)C"⟩ : MethodName)) d_jdk_42_56_21 (w_104 hw) (w_105 hw) (w_21 hw) (w_106 hw) (by decide) (argsL := [(.ref t), (.int (Int32.ofNat i))]) (rest := []) (own_ucharAt l Z a0 hw G n0 h162 X166.old t kt cs i (Int32.ofNat i) rfl hi (by omega) hr c167) rfl pd_6 rfl rfl (by decide) (W := 0) (Nat.le_of_eq rfl) (by decide) (by decide) (by decide) all0 (pc' := 24) rfl ?_
    rintro _ T168 h168 L168 X168 K168 ⟨rfl, -⟩
    have sz_h168 := K168.1
    have K0_h168 : Keep h0 h168 [] := K0_h162.trans K168 all0
    exact k_retFN X168 (w := (cs.getD i 0)) d_jdk_42_56_24 (t := .char) rfl (by simp) (own_i2c_id hr.1 hr.2) K0_h168 ⟨_, rfl, rfl, trivial⟩ (by decide) (by decide)
set_option maxRecDepth 65536 in
set_option maxHeartbeats 40000000 in
theorem own_initBB0 (l : Launch) (Z : State) (a0 : Array Value) (hw : ∀ d ∈ tables_1, d.before a0 Z = true) {zc : Int32} {fm : Value} {em : Nat}  (G : Gl Z zc fm em) (n0 : Nat) (h0 : Heap) (O0 : Old Z n0 h0) (a : Nat) (t : Nat) (gw0 : n0 ≤ a) (q0 : Exa Z h0 a "java/lang/String") (q1 : Fld Z h0 a "java/lang/String" "value" "[B" .null) (q2 : Fld Z h0 a "java/lang/String" "coder" "B" (.int (0 : Int32))) :
    MetF l [] Z n0 (⟨"java/lang/String", "<init>", "([BB)V"⟩ : MethodName) jdk_42_method_151_code 3 (Option.none : Option FieldType) ({ frames := 1, cells := 0, slots := 0, locals := 12 } : Room) #[(.ref a), (.ref t), (.int (0 : Int32))] h0 [a] (fun r h' => r = none ∧ (Exa Z h' a "java/lang/String") ∧ (Fld Z h' a "java/lang/String" "value" "[B" (.ref t)) ∧ (Fld Z h' a "java/lang/String" "coder" "B" (.int (0 : Int32)))) := by
  refine metF (plainFor_of_name pn_1) O0 (Ls := #[.val (.ref a), .val (.ref t), .val (.int (0 : Int32))]) (fun m => by first | rfl | (simp [entryFrame, mkF, argsToLocals, Value.category]; done)) ?_
  intro p e s m below meth c T0 X0
  have K0_h0 := Keep.refl h0 [a]
  have n0le := X0.n0le
  have ltq0 := own_n q0.lt
  have ltq1 := own_n q1.lt
  have ltq2 := own_n q2.lt
  obtain ⟨G_cs, G_zc, G_fm, isref_fm, G_assertionsDisabled, G_HI_BYTE_SHIFT, G_LO_BYTE_SHIFT, GS_em, GE_em, GF_em⟩ := id G
  have oz := X0.old.1
  have ltz0 := own_n GE_em.lt
  refine k_aloadN X0 d_jdk_42_151_0 rfl rfl (pc' := 1) rfl ?_
  refine k_initO X0 d_jdk_42_151_1 (w_15 hw) (w_16 hw) (w_17 hw) rfl (by decide) (W := 0) (Nat.le_of_eq rfl) (by decide) (pc' := 4) rfl fun T170 X171 => ?_
  refine k_aloadN X171 d_jdk_42_151_4 rfl rfl (pc' := 5) rfl ?_
  refine k_aloadN X171 d_jdk_42_151_5 rfl rfl (pc' := 6) rfl ?_
  have ge173 : n0 ≤ a := by omega
  refine k_putF X171 d_jdk_42_151_6 (host := "") (Or.inl (w_32 hw)) Via.refl q1 q0 (Or.inr ⟨(w_33 hw), rfl, X171.hnm⟩) (w_6 hw) (ty := (.array .byte)) (by decide) rfl rfl trivial ge173 (pc' := 9) rfl fun T172 h172 L172 X172 W172 K172 => ?_
  have sz_h172 := K172.1
  have K0_h172 : Keep h0 h172 [a] := K0_h0.trans K172 (allS (Or.inl (List.mem_of_getElem? (i := 0) rfl)) all0)
  have F172 := q1.same W172
  refine k_aloadN X172 d_jdk_42_151_9 rfl rfl (pc' := 10) rfl ?_
  refine k_iloadN X172 d_jdk_42_151_10 rfl (pc' := 11) rfl ?_
  have c174 := (q2.other W172 (Or.inr (slot_ne (Or.inr (w_31 hw)) (Or.inr (w_33 hw)) (by decide) (t := .byte) (t' := (.array .byte)) (by decide) (by decide))))
  have c175 := (q0.keep K172)
  have ge177 : n0 ≤ a := by omega
  refine k_putF X172 d_jdk_42_151_11 (host := "") (Or.inl (w_30 hw)) Via.refl c174 c175 (Or.inr ⟨(w_31 hw), rfl, X172.hnm⟩) (w_6 hw) (ty := .byte) (by decide) rfl rfl trivial ge177 (pc' := 14) rfl fun T176 h176 L176 X176 W176 K176 => ?_
  have sz_h176 := K176.1
  have K0_h176 : Keep h0 h176 [a] := K0_h172.trans K176 (allS (Or.inl (List.mem_of_getElem? (i := 0) rfl)) all0)
  have F176 := c174.same W176
  have c178 := (c175.keep K176)
  have c179 := (F172.other W176 (Or.inr (slot_ne (Or.inr (w_33 hw)) (Or.inr (w_31 hw)) (by decide) (t := (.array .byte)) (t' := .byte) (by decide) (by decide))))
  exact k_retFV X176 d_jdk_42_151_14 rfl K0_h176 ⟨rfl, c178, c179, F176⟩ (by decide) (by decide)
set_option maxRecDepth 65536 in
set_option maxHeartbeats 40000000 in
theorem own_initBB1 (l : Launch) (Z : State) (a0 : Array Value) (hw : ∀ d ∈ tables_1, d.before a0 Z = true) {zc : Int32} {fm : Value} {em : Nat}  (G : Gl Z zc fm em) (n0 : Nat) (h0 : Heap) (O0 : Old Z n0 h0) (a : Nat) (t : Nat) (gw0 : n0 ≤ a) (q0 : Exa Z h0 a "java/lang/String") (q1 : Fld Z h0 a "java/lang/String" "value" "[B" .null) (q2 : Fld Z h0 a "java/lang/String" "coder" "B" (.int (0 : Int32))) :
    MetF l [] Z n0 (⟨"java/lang/String", "<init>", "([BB)V"⟩ : MethodName) jdk_42_method_151_code 3 (Option.none : Option FieldType) ({ frames := 1, cells := 0, slots := 0, locals := 12 } : Room) #[(.ref a), (.ref t), (.int (1 : Int32))] h0 [a] (fun r h' => r = none ∧ (Exa Z h' a "java/lang/String") ∧ (Fld Z h' a "java/lang/String" "value" "[B" (.ref t)) ∧ (Fld Z h' a "java/lang/String" "coder" "B" (.int (1 : Int32)))) := by
  refine metF (plainFor_of_name pn_1) O0 (Ls := #[.val (.ref a), .val (.ref t), .val (.int (1 : Int32))]) (fun m => by first | rfl | (simp [entryFrame, mkF, argsToLocals, Value.category]; done)) ?_
  intro p e s m below meth c T0 X0
  have K0_h0 := Keep.refl h0 [a]
  have n0le := X0.n0le
  have ltq0 := own_n q0.lt
  have ltq1 := own_n q1.lt
  have ltq2 := own_n q2.lt
  obtain ⟨G_cs, G_zc, G_fm, isref_fm, G_assertionsDisabled, G_HI_BYTE_SHIFT, G_LO_BYTE_SHIFT, GS_em, GE_em, GF_em⟩ := id G
  have oz := X0.old.1
  have ltz0 := own_n GE_em.lt
  refine k_aloadN X0 d_jdk_42_151_0 rfl rfl (pc' := 1) rfl ?_
  refine k_initO X0 d_jdk_42_151_1 (w_15 hw) (w_16 hw) (w_17 hw) rfl (by decide) (W := 0) (Nat.le_of_eq rfl) (by decide) (pc' := 4) rfl fun T180 X181 => ?_
  refine k_aloadN X181 d_jdk_42_151_4 rfl rfl (pc' := 5) rfl ?_
  refine k_aloadN X181 d_jdk_42_151_5 rfl rfl (pc' := 6) rfl ?_
  have ge183 : n0 ≤ a := by omega
  refine k_putF X181 d_jdk_42_151_6 (host := "") (Or.inl (w_32 hw)) Via.refl q1 q0 (Or.inr ⟨(w_33 hw), rfl, X181.hnm⟩) (w_6 hw) (ty := (.array .byte)) (by decide) rfl rfl trivial ge183 (pc' := 9) rfl fun T182 h182 L182 X182 W182 K182 => ?_
  have sz_h182 := K182.1
  have K0_h182 : Keep h0 h182 [a] := K0_h0.trans K182 (allS (Or.inl (List.mem_of_getElem? (i := 0) rfl)) all0)
  have F182 := q1.same W182
  refine k_aloadN X182 d_jdk_42_151_9 rfl rfl (pc' := 10) rfl ?_
  refine k_iloadN X182 d_jdk_42_151_10 rfl (pc' := 11) rfl ?_
  have c184 := (q2.other W182 (Or.inr (slot_ne (Or.inr (w_31 hw)) (Or.inr (w_33 hw)) (by decide) (t := .byte) (t' := (.array .byte)) (by decide) (by decide))))
  have c185 := (q0.keep K182)
  have ge187 : n0 ≤ a := by omega
  refine k_putF X182 d_jdk_42_151_11 (host := "") (Or.inl (w_30 hw)) Via.refl c184 c185 (Or.inr ⟨(w_31 hw), rfl, X182.hnm⟩) (w_6 hw) (ty := .byte) (by decide) rfl rfl trivial ge187 (pc' := 14) rfl fun T186 h186 L186 X186 W186 K186 => ?_
  have sz_h186 := K186.1
  have K0_h186 : Keep h0 h186 [a] := K0_h182.trans K186 (allS (Or.inl (List.mem_of_getElem? (i := 0) rfl)) all0)
  have F186 := c184.same W186
  have c188 := (c185.keep K186)
  have c189 := (F182.other W186 (Or.inr (slot_ne (Or.inr (w_33 hw)) (Or.inr (w_31 hw)) (by decide) (t := (.array .byte)) (t' := .byte) (by decide) (by decide))))
  exact k_retFV X186 d_jdk_42_151_14 rfl K0_h186 ⟨rfl, c188, c189, F186⟩ (by decide) (by decide)
set_option maxRecDepth 65536 in
set_option maxHeartbeats 40000000 in
theorem own_minc (l : Launch) (Z : State) (a0 : Array Value) (hw : ∀ d ∈ tables_1, d.before a0 Z = true) {zc : Int32} {fm : Value} {em : Nat}  (G : Gl Z zc fm em) (n0 : Nat) (h0 : Heap) (O0 : Old Z n0 h0) (x : Int32) (z : Int32)   :
    MetF l [] Z n0 (⟨"java/lang/Math", "min", "(II)I"⟩ : MethodName) jdk_29_method_69_code 2 (Option.some FieldType.int) ({ frames := 0, cells := 0, slots := 0, locals := 0 } : Room) #[(.int x), (.int z)] h0 [] (fun r h' => ∃ w, r = some w ∧ w = (.int (own_minv x z)) ∧ True) := by
  refine metF pn_4 O0 (Ls := #[.val (.int x), .val (.int z)]) (fun m => by first | rfl | (simp [entryFrame, mkF, argsToLocals, Value.category]; done)) ?_
  intro p e s m below meth c T0 X0
  have K0_h0 := Keep.refl h0 []
  have n0le := X0.n0le
  obtain ⟨G_cs, G_zc, G_fm, isref_fm, G_assertionsDisabled, G_HI_BYTE_SHIFT, G_LO_BYTE_SHIFT, GS_em, GE_em, GF_em⟩ := id G
  have oz := X0.old.1
  have ltz0 := own_n GE_em.lt
  refine k_iloadN X0 d_jdk_29_69_0 rfl (pc' := 1) rfl ?_
  refine k_iloadN X0 d_jdk_29_69_1 rfl (pc' := 2) rfl ?_
  by_cases hc190 : z < x
  · have he : own_minv x z = z := if_pos hc190
    refine k_icmpYes X0 d_jdk_29_69_2 (tlt hc190).2.2.1 (pc' := 9) (by decide) (by decide) ?_
    refine k_iloadN X0 d_jdk_29_69_9 rfl (pc' := 10) rfl ?_
    exact k_retFI X0 d_jdk_29_69_10 rfl K0_h0 ⟨_, rfl, by rw [he], trivial⟩ (by decide) (by decide)
  · have he : own_minv x z = x := if_neg hc190
    refine k_icmpNo X0 d_jdk_29_69_2 (flt hc190).2.2.1 (pc' := 5) rfl ?_
    refine k_iloadN X0 d_jdk_29_69_5 rfl (pc' := 6) rfl ?_
    refine k_goto X0 d_jdk_29_69_6 (pc' := 10) (by decide) (by decide) ?_
    exact k_retFI X0 d_jdk_29_69_10 rfl K0_h0 ⟨_, rfl, by rw [he], trivial⟩ (by decide) (by decide)
set_option maxRecDepth 65536 in
set_option maxHeartbeats 40000000 in
theorem own_clen (l : Launch) (Z : State) (a0 : Array Value) (hw : ∀ d ∈ tables_1, d.before a0 Z = true) {zc : Int32} {fm : Value} {em : Nat}  (G : Gl Z zc fm em) (n0 : Nat) (h0 : Heap) (O0 : Old Z n0 h0) (i : Int32) (j : Int32) (hij : ¬ j < i)   :
    MetF l [] Z n0 (⟨"java/util/Arrays", "checkLength", "(II)V"⟩ : MethodName) jdk_65_method_131_code 2 (Option.none : Option FieldType) ({ frames := 0, cells := 0, slots := 0, locals := 0 } : Room) #[(.int i), (.int j)] h0 [] (fun r h' => r = none ∧ True) := by
  refine metF (plainFor_of_name pn_5) O0 (Ls := #[.val (.int i), .val (.int j)]) (fun m => by first | rfl | (simp [entryFrame, mkF, argsToLocals, Value.category]; done)) ?_
  intro p e s m below meth c T0 X0
  have K0_h0 := Keep.refl h0 []
  have n0le := X0.n0le
  obtain ⟨G_cs, G_zc, G_fm, isref_fm, G_assertionsDisabled, G_HI_BYTE_SHIFT, G_LO_BYTE_SHIFT, GS_em, GE_em, GF_em⟩ := id G
  have oz := X0.old.1
  have ltz0 := own_n GE_em.lt
  refine k_iloadN X0 d_jdk_65_131_0 rfl (pc' := 1) rfl ?_
  refine k_iloadN X0 d_jdk_65_131_1 rfl (pc' := 2) rfl ?_
  refine k_icmpYes X0 d_jdk_65_131_2 (flt hij).2.1 (pc' := 37) (by decide) (by decide) ?_
  exact k_retFV X0 d_jdk_65_131_37 rfl K0_h0 ⟨rfl, trivial⟩ (by decide) (by decide)
set_option maxRecDepth 65536 in
set_option maxHeartbeats 40000000 in
theorem own_corb (l : Launch) (Z : State) (a0 : Array Value) (hw : ∀ d ∈ tables_1, d.before a0 Z = true) {zc : Int32} {fm : Value} {em : Nat}  (G : Gl Z zc fm em) (n0 : Nat) (h0 : Heap) (O0 : Old Z n0 h0) (b : Nat) (kb : ClassId) (z : Int32) (vs : List Value) (N : Nat) (f : Nat) (n : Nat) (fv : Int32) (tv : Int32) (hz : z = Int32.ofNat N) (hvl : vs.length = N) (hfv : fv = Int32.ofNat f) (htv : tv = Int32.ofNat (f + n)) (hN : N < 1073741824) (hfn : f + n ≤ N) (hcap : n ≤ 88)  (q0 : Arv Z h0 b kb .byte z vs (.int (0 : Int32))) :
    MetF l [] Z n0 (⟨"java/util/Arrays", "copyOfRangeByte", "([BII)[B"⟩ : MethodName) jdk_65_method_133_code 5 (Option.some (FieldType.array FieldType.byte)) ({ frames := 1, cells := 1, slots := 88, locals := 18 } : Room) #[(.ref b), (.int fv), (.int tv)] h0 [] (fun r h' => ∃ w, r = some w ∧ ∃ (t : Nat), ∃ (kt : ClassId), w = (.ref t) ∧ (Arv Z h' t kt .byte (Int32.ofNat n) ((vs.drop f).take n) (.int (0 : Int32))) ∧ (h0.size ≤ t)) := by
  subst hfv htv
  refine metF (plainFor_of_name pn_5) O0 (Ls := #[.val (.ref b), .val (.int (Int32.ofNat f)), .val (.int (Int32.ofNat (f + n))), .unset, .unset]) (fun m => by first | rfl | (simp [entryFrame, mkF, argsToLocals, Value.category]; done)) ?_
  intro p e s m below meth c T0 X0
  have K0_h0 := Keep.refl h0 []
  have n0le := X0.n0le
  have ltq0 := own_n q0.lt
  obtain ⟨G_cs, G_zc, G_fm, isref_fm, G_assertionsDisabled, G_HI_BYTE_SHIFT, G_LO_BYTE_SHIFT, GS_em, GE_em, GF_em⟩ := id G
  have oz := X0.old.1
  have ltz0 := own_n GE_em.lt
  refine k_iloadN X0 d_jdk_65_133_0 rfl (pc' := 1) rfl ?_
  refine k_iloadN X0 d_jdk_65_133_1 rfl (pc' := 2) rfl ?_
  refine k_callSNF X0 (y := (⟨"java/util/Arrays", "checkLength", "(II)V"⟩ : MethodName)) d_jdk_65_133_2 (w_152 hw) (w_153 hw) (w_147 hw) (w_154 hw) (by decide) (argsL := [(.int (Int32.ofNat f)), (.int (Int32.ofNat (f + n)))]) (rest := []) (own_clen l Z a0 hw G n0 h0 X0.old (Int32.ofNat f) (Int32.ofNat (f + n)) (own_nlt (by omega) (by omega)) ) rfl pd_10 rfl rfl (by decide) (W := 0) (Nat.le_of_eq rfl) (by decide) (by decide) (by decide) all0 (pc' := 5) rfl ?_
  rintro T191 h191 L191 X191 K191 -
  have sz_h191 := K191.1
  have K0_h191 : Keep h0 h191 [] := K0_h0.trans K191 all0
  refine k_iloadN X191 d_jdk_65_133_5 rfl (pc' := 6) rfl ?_
  refine k_iloadN X191 d_jdk_65_133_6 rfl (pc' := 7) rfl ?_
  refine k_isub X191 d_jdk_65_133_7 (w := (Int32.ofNat n)) own_subn (pc' := 8) rfl ?_
  refine k_istoreN X191 d_jdk_65_133_8 (Ls' := #[.val (.ref b), .val (.int (Int32.ofNat f)), .val (.int (Int32.ofNat (f + n))), .val (.int (Int32.ofNat n)), .unset]) rfl (pc' := 9) rfl ?_
  refine k_iloadN X191 d_jdk_65_133_9 rfl (pc' := 10) rfl ?_
  refine k_newP X191 d_jdk_65_133_10 (w_23 hw) (own_nn (by omega)) (cap := 88) (by rw [own_clamp (by omega)]; omega) (by decide) (by decide) (by decide) (pc' := 12) rfl fun T192 h192 b192 k192 g192 X192 K192 V192 S192 lt192 ge192 => ?_
  have sz_h192 := K192.1
  have K0_h192 : Keep h0 h192 [] := K0_h191.trans K192 all0
  have Vp : Arv Z h192 b192 k192 .byte (Int32.ofNat n) (List.replicate n (.int (0 : Int32))) (.int (0 : Int32)) := Arv.pad V192 (fun i => by simpa using pad_rep [] (.int (0 : Int32)) n i)
  refine k_astore X192 d_jdk_65_133_12 rfl (Ls' := #[.val (.ref b), .val (.int (Int32.ofNat f)), .val (.int (Int32.ofNat (f + n))), .val (.int (Int32.ofNat n)), .val (.ref b192)]) rfl (pc' := 14) rfl ?_
  refine k_aloadN X192 d_jdk_65_133_14 rfl rfl (pc' := 15) rfl ?_
  refine k_iloadN X192 d_jdk_65_133_15 rfl (pc' := 16) rfl ?_
  refine k_aload X192 d_jdk_65_133_16 rfl rfl (pc' := 18) rfl ?_
  refine k_iconst X192 d_jdk_65_133_18 (w := (0 : Int32)) rfl (pc' := 19) rfl ?_
  refine k_aloadN X192 d_jdk_65_133_19 rfl rfl (pc' := 20) rfl ?_
  have c193 := ((q0.keep K191 nin0).keep K192 nin0)
  refine k_arlen X192 d_jdk_65_133_20 c193 (pc' := 21) rfl ?_
  refine k_iloadN X192 d_jdk_65_133_21 rfl (pc' := 22) rfl ?_
  refine k_isub X192 d_jdk_65_133_22 (w := (Int32.ofNat (N - f))) (by rw [hz]; exact own_subm (by omega)) (pc' := 23) rfl ?_
  refine k_iloadN X192 d_jdk_65_133_23 rfl (pc' := 24) rfl ?_
  refine k_callSVF X192 (y := (⟨"java/lang/Math", "min", "(II)I"⟩ : MethodName)) d_jdk_65_133_24 (w_155 hw) (w_156 hw) (w_157 hw) (w_158 hw) (by decide) (argsL := [(.int (Int32.ofNat (N - f))), (.int (Int32.ofNat n))]) (rest := [(.int (0 : Int32)), (.ref b192), (.int (Int32.ofNat f)), (.ref b)]) (own_minc l Z a0 hw G n0 h192 X192.old (Int32.ofNat (N - f)) (Int32.ofNat n) ) rfl pd_14 rfl rfl (by decide) (W := 4) (Nat.le_of_eq rfl) (by decide) (by decide) (by decide) all0 (pc' := 27) rfl ?_
  rintro _ T194 h194 L194 X194 K194 ⟨rfl, -⟩
  have sz_h194 := K194.1
  have K0_h194 : Keep h0 h194 [] := K0_h192.trans K194 all0
  rw [own_min_r (show n ≤ N - f by omega) (by omega)]
  have en := own_clamp (show n < 2147483648 by omega)
  have ef := own_clamp (show f < 2147483648 by omega)
  have eN := own_clamp (show N < 2147483648 by omega)
  have e0 : (0 : Int32).toNatClampNeg = 0 := rfl
  have c196 := (c193.keep K194 nin0)
  have c197 := (Vp.keep K194 nin0)
  have ge198 : n0 ≤ b192 := by omega
  refine k_copy X194 d_jdk_65_133_27 (w_159 hw) (w_162 hw) (w_160 hw) (w_161 hw) c196 c197 (by decide) (own_nn (by omega)) (by decide) (own_nn (by omega)) (by rw [hz, ef, en, eN]; omega) (by rw [e0, en]; omega) (by rw [e0, en]; simp) (vd' := ((vs.drop f).take n)) (by rw [e0, en, ef]; exact own_cpy vs _ f n _ (by omega)) trivial ge198 rfl (by decide) (W := 0) (Nat.le_of_eq rfl) (by decide) (pc' := 30) rfl fun T199 h199 L199 X199 K199 V199 => ?_
  have sz_h199 := K199.1
  have K0_h199 : Keep h0 h199 [] := K0_h194.trans K199 (allS (Or.inr (by omega)) all0)
  refine k_aload X199 d_jdk_65_133_30 rfl rfl (pc' := 32) rfl ?_
  exact k_retFA X199 d_jdk_65_133_32 rfl rfl rfl rfl K0_h199 ⟨_, rfl, _, _, rfl, V199, by omega⟩ (by decide) (by decide)
set_option maxRecDepth 65536 in
set_option maxHeartbeats 40000000 in
theorem own_cor (l : Launch) (Z : State) (a0 : Array Value) (hw : ∀ d ∈ tables_1, d.before a0 Z = true) {zc : Int32} {fm : Value} {em : Nat}  (G : Gl Z zc fm em) (n0 : Nat) (h0 : Heap) (O0 : Old Z n0 h0) (b : Nat) (kb : ClassId) (z : Int32) (vs : List Value) (N : Nat) (f : Nat) (n : Nat) (fv : Int32) (tv : Int32) (hz : z = Int32.ofNat N) (hvl : vs.length = N) (hfv : fv = Int32.ofNat f) (htv : tv = Int32.ofNat (f + n)) (hN : N < 1073741824) (hfn : f + n ≤ N) (hcap : n ≤ 88) (hne : ¬ (f = 0 ∧ n = N))  (q0 : Arv Z h0 b kb .byte z vs (.int (0 : Int32))) :
    MetF l [] Z n0 (⟨"java/util/Arrays", "copyOfRange", "([BII)[B"⟩ : MethodName) jdk_65_method_132_code 3 (Option.some (FieldType.array FieldType.byte)) ({ frames := 2, cells := 1, slots := 88, locals := 34 } : Room) #[(.ref b), (.int fv), (.int tv)] h0 [] (fun r h' => ∃ w, r = some w ∧ ∃ (t : Nat), ∃ (kt : ClassId), w = (.ref t) ∧ (Arv Z h' t kt .byte (Int32.ofNat n) ((vs.drop f).take n) (.int (0 : Int32))) ∧ (h0.size ≤ t)) := by
  refine metF (plainFor_of_name pn_5) O0 (Ls := #[.val (.ref b), .val (.int fv), .val (.int tv)]) (fun m => by first | rfl | (simp [entryFrame, mkF, argsToLocals, Value.category]; done)) ?_
  intro p e s m below meth c T0 X0
  have K0_h0 := Keep.refl h0 []
  have n0le := X0.n0le
  have ltq0 := own_n q0.lt
  obtain ⟨G_cs, G_zc, G_fm, isref_fm, G_assertionsDisabled, G_HI_BYTE_SHIFT, G_LO_BYTE_SHIFT, GS_em, GE_em, GF_em⟩ := id G
  have oz := X0.old.1
  have ltz0 := own_n GE_em.lt
  refine k_iloadN X0 d_jdk_65_132_0 rfl (pc' := 1) rfl ?_
  by_cases hc200 : fv = (0 : Int32)
  · have hf0 : f = 0 := own_inj (by omega) (by decide) (hfv.symm.trans hc200)
    refine k_ifNo X0 d_jdk_65_132_1 ((if0 _ _).trans (teq hc200).2) (pc' := 4) rfl ?_
    refine k_iloadN X0 d_jdk_65_132_4 rfl (pc' := 5) rfl ?_
    refine k_aloadN X0 d_jdk_65_132_5 rfl rfl (pc' := 6) rfl ?_
    refine k_arlen X0 d_jdk_65_132_6 q0 (pc' := 7) rfl ?_
    have htz : ¬ tv = z := fun q => hne ⟨hf0, by have := own_inj (show f + n < 2147483648 by omega) (show N < 2147483648 by omega) (htv.symm.trans (q.trans hz)); omega⟩
    refine k_icmpNo X0 d_jdk_65_132_7 (feq htz).1 (pc' := 10) rfl ?_
    refine k_aloadN X0 d_jdk_65_132_10 rfl rfl (pc' := 11) rfl ?_
    refine k_iloadN X0 d_jdk_65_132_11 rfl (pc' := 12) rfl ?_
    refine k_iloadN X0 d_jdk_65_132_12 rfl (pc' := 13) rfl ?_
    refine k_callSVF X0 (y := (⟨"java/util/Arrays", "copyOfRangeByte", "([BII)[B"⟩ : MethodName)) d_jdk_65_132_13 (w_149 hw) (w_150 hw) (w_147 hw) (w_151 hw) (by decide) (argsL := [(.ref b), (.int fv), (.int tv)]) (rest := []) (own_corb l Z a0 hw G n0 h0 X0.old b kb z vs N f n fv tv hz hvl hfv htv hN hfn hcap q0) rfl pd_15 rfl rfl (by decide) (W := 0) (Nat.le_of_eq rfl) (by decide) (by decide) (by decide) all0 (pc' := 16) rfl ?_
    rintro _ T203 h203 L203 X203 K203 ⟨t_201, kt_202, rfl, q203_0, q203_1⟩
    have sz_h203 := K203.1
    have K0_h203 : Keep h0 h203 [] := K0_h0.trans K203 all0
    have lt203_0 := own_n q203_0.lt
    exact k_retFA X203 d_jdk_65_132_16 rfl rfl rfl rfl K0_h203 ⟨_, rfl, _, _, rfl, q203_0, by omega⟩ (by decide) (by decide)
  · refine k_ifYes X0 d_jdk_65_132_1 ((if0 _ _).trans (feq hc200).2) (pc' := 10) (by decide) (by decide) ?_
    refine k_aloadN X0 d_jdk_65_132_10 rfl rfl (pc' := 11) rfl ?_
    refine k_iloadN X0 d_jdk_65_132_11 rfl (pc' := 12) rfl ?_
    refine k_iloadN X0 d_jdk_65_132_12 rfl (pc' := 13) rfl ?_
    refine k_callSVF X0 (y := (⟨"java/util/Arrays", "copyOfRangeByte", "([BII)[B"⟩ : MethodName)) d_jdk_65_132_13 (w_149 hw) (w_150 hw) (w_147 hw) (w_151 hw) (by decide) (argsL := [(.ref b), (.int fv), (.int tv)]) (rest := []) (own_corb l Z a0 hw G n0 h0 X0.old b kb z vs N f n fv tv hz hvl hfv htv hN hfn hcap q0) rfl pd_15 rfl rfl (by decide) (W := 0) (Nat.le_of_eq rfl) (by decide) (by decide) (by decide) all0 (pc' := 16) rfl ?_
    rintro _ T207 h207 L207 X207 K207 ⟨t_205, kt_206, rfl, q207_0, q207_1⟩
    have sz_h207 := K207.1
    have K0_h207 : Keep h0 h207 [] := K0_h0.trans K207 all0
    have lt207_0 := own_n q207_0.lt
    exact k_retFA X207 d_jdk_65_132_16 rfl rfl rfl rfl K0_h207 ⟨_, rfl, _, _, rfl, q207_0, by omega⟩ (by decide) (by decide)
set_option maxRecDepth 65536 in
set_option maxHeartbeats 40000000 in
theorem own_cft (l : Launch) (Z : State) (a0 : Array Value) (hw : ∀ d ∈ tables_1, d.before a0 Z = true) {zc : Int32} {fm : Value} {em : Nat}  (G : Gl Z zc fm em) (n0 : Nat) (h0 : Heap) (O0 : Old Z n0 h0) (i : Int32) (j : Int32) (n : Int32) (f : Value) (hf : f.isRef = true) (hi0 : ¬ i < 0) (hi1 : ¬ j < i) (hi2 : ¬ n < j)   :
    MetF l [] Z n0 (⟨"jdk/internal/util/Preconditions", "checkFromToIndex", "(IIILjava/util/function/BiFunction;)I"⟩ : MethodName) jdk_41_method_12_code 4 (Option.some FieldType.int) ({ frames := 0, cells := 0, slots := 0, locals := 0 } : Room) #[(.int i), (.int j), (.int n), f] h0 [] (fun r h' => ∃ w, r = some w ∧ w = (.int i) ∧ True) := by
  rcases ref_cases hf with rfl | ⟨z, rfl⟩
  · refine metF (plainFor_of_name pn_2) O0 (Ls := #[.val (.int i), .val (.int j), .val (.int n), .val .null]) (fun m => by first | rfl | (simp [entryFrame, mkF, argsToLocals, Value.category]; done)) ?_
    intro p e s m below meth c T0 X0
    have K0_h0 := Keep.refl h0 []
    have n0le := X0.n0le
    obtain ⟨G_cs, G_zc, G_fm, isref_fm, G_assertionsDisabled, G_HI_BYTE_SHIFT, G_LO_BYTE_SHIFT, GS_em, GE_em, GF_em⟩ := id G
    have oz := X0.old.1
    have ltz0 := own_n GE_em.lt
    refine k_iloadN X0 d_jdk_41_12_0 rfl (pc' := 1) rfl ?_
    refine k_ifNo X0 d_jdk_41_12_1 ((if0 _ _).trans (flt hi0).1) (pc' := 4) rfl ?_
    refine k_iloadN X0 d_jdk_41_12_4 rfl (pc' := 5) rfl ?_
    refine k_iloadN X0 d_jdk_41_12_5 rfl (pc' := 6) rfl ?_
    refine k_icmpNo X0 d_jdk_41_12_6 (flt hi1).2.2.1 (pc' := 9) rfl ?_
    refine k_iloadN X0 d_jdk_41_12_9 rfl (pc' := 10) rfl ?_
    refine k_iloadN X0 d_jdk_41_12_10 rfl (pc' := 11) rfl ?_
    refine k_icmpYes X0 d_jdk_41_12_11 (flt hi2).2.2.2 (pc' := 22) (by decide) (by decide) ?_
    refine k_iloadN X0 d_jdk_41_12_22 rfl (pc' := 23) rfl ?_
    exact k_retFI X0 d_jdk_41_12_23 rfl K0_h0 ⟨_, rfl, rfl, trivial⟩ (by decide) (by decide)
  · refine metF (plainFor_of_name pn_2) O0 (Ls := #[.val (.int i), .val (.int j), .val (.int n), .val (.ref z)]) (fun m => by first | rfl | (simp [entryFrame, mkF, argsToLocals, Value.category]; done)) ?_
    intro p e s m below meth c T0 X0
    have K0_h0 := Keep.refl h0 []
    have n0le := X0.n0le
    obtain ⟨G_cs, G_zc, G_fm, isref_fm, G_assertionsDisabled, G_HI_BYTE_SHIFT, G_LO_BYTE_SHIFT, GS_em, GE_em, GF_em⟩ := id G
    have oz := X0.old.1
    have ltz0 := own_n GE_em.lt
    refine k_iloadN X0 d_jdk_41_12_0 rfl (pc' := 1) rfl ?_
    refine k_ifNo X0 d_jdk_41_12_1 ((if0 _ _).trans (flt hi0).1) (pc' := 4) rfl ?_
    refine k_iloadN X0 d_jdk_41_12_4 rfl (pc' := 5) rfl ?_
    refine k_iloadN X0 d_jdk_41_12_5 rfl (pc' := 6) rfl ?_
    refine k_icmpNo X0 d_jdk_41_12_6 (flt hi1).2.2.1 (pc' := 9) rfl ?_
    refine k_iloadN X0 d_jdk_41_12_9 rfl (pc' := 10) rfl ?_
    refine k_iloadN X0 d_jdk_41_12_10 rfl (pc' := 11) rfl ?_
    refine k_icmpYes X0 d_jdk_41_12_11 (flt hi2).2.2.2 (pc' := 22) (by decide) (by decide) ?_
    refine k_iloadN X0 d_jdk_41_12_22 rfl (pc' := 23) rfl ?_
    exact k_retFI X0 d_jdk_41_12_23 rfl K0_h0 ⟨_, rfl, rfl, trivial⟩ (by decide) (by decide)
set_option maxRecDepth 65536 in
set_option maxHeartbeats 40000000 in
theorem own_cbe (l : Launch) (Z : State) (a0 : Array Value) (hw : ∀ d ∈ tables_1, d.before a0 Z = true) {zc : Int32} {fm : Value} {em : Nat}  (G : Gl Z zc fm em) (n0 : Nat) (h0 : Heap) (O0 : Old Z n0 h0) (i : Int32) (j : Int32) (n : Int32) (hi0 : ¬ i < 0) (hi1 : ¬ j < i) (hi2 : ¬ n < j)   :
    MetF l [] Z n0 (⟨"java/lang/String", "checkBoundsBeginEnd", "(III)V"⟩ : MethodName) jdk_42_method_158_code 3 (Option.none : Option FieldType) ({ frames := 1, cells := 0, slots := 0, locals := 15 } : Room) #[(.int i), (.int j), (.int n)] h0 [] (fun r h' => r = none ∧ True) := by
  refine metF (plainFor_of_name pn_1) O0 (Ls := #[.val (.int i), .val (.int j), .val (.int n)]) (fun m => by first | rfl | (simp [entryFrame, mkF, argsToLocals, Value.category]; done)) ?_
  intro p e s m below meth c T0 X0
  have K0_h0 := Keep.refl h0 []
  have n0le := X0.n0le
  obtain ⟨G_cs, G_zc, G_fm, isref_fm, G_assertionsDisabled, G_HI_BYTE_SHIFT, G_LO_BYTE_SHIFT, GS_em, GE_em, GF_em⟩ := id G
  have oz := X0.old.1
  have ltz0 := own_n GE_em.lt
  refine k_iloadN X0 d_jdk_42_158_0 rfl (pc' := 1) rfl ?_
  refine k_iloadN X0 d_jdk_42_158_1 rfl (pc' := 2) rfl ?_
  refine k_iloadN X0 d_jdk_42_158_2 rfl (pc' := 3) rfl ?_
  refine k_getS X0 d_jdk_42_158_3 (host := "") (Or.inl (w_65 hw)) Via.refl (G_fm.ext X0.old.2) (pc' := 6) rfl fun T209 X210 => ?_
  refine k_callSVF X210 (y := (⟨"jdk/internal/util/Preconditions", "checkFromToIndex", "(IIILjava/util/function/BiFunction;)I"⟩ : MethodName)) d_jdk_42_158_6 (w_123 hw) (w_124 hw) (w_66 hw) (w_125 hw) (by decide) (argsL := [(.int i), (.int j), (.int n), fm]) (rest := []) (own_cft l Z a0 hw G n0 h0 X210.old i j n fm isref_fm hi0 hi1 hi2 ) rfl pd_16 rfl rfl (by decide) (W := 0) (Nat.le_of_eq rfl) (by decide) (by decide) (by decide) all0 (pc' := 9) rfl ?_
  rintro _ T211 h211 L211 X211 K211 ⟨rfl, -⟩
  have sz_h211 := K211.1
  have K0_h211 : Keep h0 h211 [] := K0_h0.trans K211 all0
  refine k_pop X211 d_jdk_42_158_9 rfl (pc' := 10) rfl ?_
  exact k_retFV X211 d_jdk_42_158_10 rfl K0_h211 ⟨rfl, trivial⟩ (by decide) (by decide)
set_option maxRecDepth 65536 in
set_option maxHeartbeats 40000000 in
theorem own_cfis (l : Launch) (Z : State) (a0 : Array Value) (hw : ∀ d ∈ tables_1, d.before a0 Z = true) {zc : Int32} {fm : Value} {em : Nat}  (G : Gl Z zc fm em) (n0 : Nat) (h0 : Heap) (O0 : Old Z n0 h0) (n : Int32) (ln : Int32) (f : Value) (hf : f.isRef = true) (ho : ¬ ((ln ||| (0 : Int32)) ||| n) < 0) (hle : ¬ ln < n)   :
    MetF l [] Z n0 (⟨"jdk/internal/util/Preconditions", "checkFromIndexSize", "(IIILjava/util/function/BiFunction;)I"⟩ : MethodName) jdk_41_method_13_code 4 (Option.some FieldType.int) ({ frames := 0, cells := 0, slots := 0, locals := 0 } : Room) #[(.int (0 : Int32)), (.int n), (.int ln), f] h0 [] (fun r h' => ∃ w, r = some w ∧ w = (.int (0 : Int32)) ∧ True) := by
  rcases ref_cases hf with rfl | ⟨z, rfl⟩
  · refine metF (plainFor_of_name pn_2) O0 (Ls := #[.val (.int (0 : Int32)), .val (.int n), .val (.int ln), .val .null]) (fun m => by first | rfl | (simp [entryFrame, mkF, argsToLocals, Value.category]; done)) ?_
    intro p e s m below meth c T0 X0
    have K0_h0 := Keep.refl h0 []
    have n0le := X0.n0le
    obtain ⟨G_cs, G_zc, G_fm, isref_fm, G_assertionsDisabled, G_HI_BYTE_SHIFT, G_LO_BYTE_SHIFT, GS_em, GE_em, GF_em⟩ := id G
    have oz := X0.old.1
    have ltz0 := own_n GE_em.lt
    refine k_iloadN X0 d_jdk_41_13_0 rfl (pc' := 1) rfl ?_
    refine k_iloadN X0 d_jdk_41_13_1 rfl (pc' := 2) rfl ?_
    refine k_ior X0 d_jdk_41_13_2 (w := (ln ||| (0 : Int32))) rfl (pc' := 3) rfl ?_
    refine k_iloadN X0 d_jdk_41_13_3 rfl (pc' := 4) rfl ?_
    refine k_ior X0 d_jdk_41_13_4 (w := ((ln ||| (0 : Int32)) ||| n)) rfl (pc' := 5) rfl ?_
    refine k_ifNo X0 d_jdk_41_13_5 ((if0 _ _).trans (flt ho).1) (pc' := 8) rfl ?_
    refine k_iloadN X0 d_jdk_41_13_8 rfl (pc' := 9) rfl ?_
    refine k_iloadN X0 d_jdk_41_13_9 rfl (pc' := 10) rfl ?_
    refine k_iloadN X0 d_jdk_41_13_10 rfl (pc' := 11) rfl ?_
    refine k_isub X0 d_jdk_41_13_11 (w := ln) (by simp) (pc' := 12) rfl ?_
    refine k_icmpYes X0 d_jdk_41_13_12 (flt hle).2.2.2 (pc' := 23) (by decide) (by decide) ?_
    refine k_iloadN X0 d_jdk_41_13_23 rfl (pc' := 24) rfl ?_
    exact k_retFI X0 d_jdk_41_13_24 rfl K0_h0 ⟨_, rfl, rfl, trivial⟩ (by decide) (by decide)
  · refine metF (plainFor_of_name pn_2) O0 (Ls := #[.val (.int (0 : Int32)), .val (.int n), .val (.int ln), .val (.ref z)]) (fun m => by first | rfl | (simp [entryFrame, mkF, argsToLocals, Value.category]; done)) ?_
    intro p e s m below meth c T0 X0
    have K0_h0 := Keep.refl h0 []
    have n0le := X0.n0le
    obtain ⟨G_cs, G_zc, G_fm, isref_fm, G_assertionsDisabled, G_HI_BYTE_SHIFT, G_LO_BYTE_SHIFT, GS_em, GE_em, GF_em⟩ := id G
    have oz := X0.old.1
    have ltz0 := own_n GE_em.lt
    refine k_iloadN X0 d_jdk_41_13_0 rfl (pc' := 1) rfl ?_
    refine k_iloadN X0 d_jdk_41_13_1 rfl (pc' := 2) rfl ?_
    refine k_ior X0 d_jdk_41_13_2 (w := (ln ||| (0 : Int32))) rfl (pc' := 3) rfl ?_
    refine k_iloadN X0 d_jdk_41_13_3 rfl (pc' := 4) rfl ?_
    refine k_ior X0 d_jdk_41_13_4 (w := ((ln ||| (0 : Int32)) ||| n)) rfl (pc' := 5) rfl ?_
    refine k_ifNo X0 d_jdk_41_13_5 ((if0 _ _).trans (flt ho).1) (pc' := 8) rfl ?_
    refine k_iloadN X0 d_jdk_41_13_8 rfl (pc' := 9) rfl ?_
    refine k_iloadN X0 d_jdk_41_13_9 rfl (pc' := 10) rfl ?_
    refine k_iloadN X0 d_jdk_41_13_10 rfl (pc' := 11) rfl ?_
    refine k_isub X0 d_jdk_41_13_11 (w := ln) (by simp) (pc' := 12) rfl ?_
    refine k_icmpYes X0 d_jdk_41_13_12 (flt hle).2.2.2 (pc' := 23) (by decide) (by decide) ?_
    refine k_iloadN X0 d_jdk_41_13_23 rfl (pc' := 24) rfl ?_
    exact k_retFI X0 d_jdk_41_13_24 rfl K0_h0 ⟨_, rfl, rfl, trivial⟩ (by decide) (by decide)
set_option maxRecDepth 65536 in
set_option maxHeartbeats 40000000 in
theorem own_cboc (l : Launch) (Z : State) (a0 : Array Value) (hw : ∀ d ∈ tables_1, d.before a0 Z = true) {zc : Int32} {fm : Value} {em : Nat}  (G : Gl Z zc fm em) (n0 : Nat) (h0 : Heap) (O0 : Old Z n0 h0) (n : Int32) (ln : Int32) (ho : ¬ ((ln ||| (0 : Int32)) ||| n) < 0) (hle : ¬ ln < n)   :
    MetF l [] Z n0 (⟨"java/lang/String", "checkBoundsOffCount", "(III)I"⟩ : MethodName) jdk_42_method_157_code 3 (Option.some FieldType.int) ({ frames := 1, cells := 0, slots := 0, locals := 15 } : Room) #[(.int (0 : Int32)), (.int n), (.int ln)] h0 [] (fun r h' => ∃ w, r = some w ∧ w = (.int (0 : Int32)) ∧ True) := by
  refine metF (plainFor_of_name pn_1) O0 (Ls := #[.val (.int (0 : Int32)), .val (.int n), .val (.int ln)]) (fun m => by first | rfl | (simp [entryFrame, mkF, argsToLocals, Value.category]; done)) ?_
  intro p e s m below meth c T0 X0
  have K0_h0 := Keep.refl h0 []
  have n0le := X0.n0le
  obtain ⟨G_cs, G_zc, G_fm, isref_fm, G_assertionsDisabled, G_HI_BYTE_SHIFT, G_LO_BYTE_SHIFT, GS_em, GE_em, GF_em⟩ := id G
  have oz := X0.old.1
  have ltz0 := own_n GE_em.lt
  refine k_iloadN X0 d_jdk_42_157_0 rfl (pc' := 1) rfl ?_
  refine k_iloadN X0 d_jdk_42_157_1 rfl (pc' := 2) rfl ?_
  refine k_iloadN X0 d_jdk_42_157_2 rfl (pc' := 3) rfl ?_
  refine k_getS X0 d_jdk_42_157_3 (host := "") (Or.inl (w_65 hw)) Via.refl (G_fm.ext X0.old.2) (pc' := 6) rfl fun T213 X214 => ?_
  refine k_callSVF X214 (y := (⟨"jdk/internal/util/Preconditions", "checkFromIndexSize", "(IIILjava/util/function/BiFunction;)I"⟩ : MethodName)) d_jdk_42_157_6 (w_142 hw) (w_143 hw) (w_66 hw) (w_144 hw) (by decide) (argsL := [(.int (0 : Int32)), (.int n), (.int ln), fm]) (rest := []) (own_cfis l Z a0 hw G n0 h0 X214.old n ln fm isref_fm ho hle ) rfl pd_16 rfl rfl (by decide) (W := 0) (Nat.le_of_eq rfl) (by decide) (by decide) (by decide) all0 (pc' := 9) rfl ?_
  rintro _ T215 h215 L215 X215 K215 ⟨rfl, -⟩
  have sz_h215 := K215.1
  have K0_h215 : Keep h0 h215 [] := K0_h0.trans K215 all0
  exact k_retFI X215 d_jdk_42_157_9 rfl K0_h215 ⟨_, rfl, rfl, trivial⟩ (by decide) (by decide)
set_option maxRecDepth 65536 in
set_option maxHeartbeats 40000000 in
theorem own_ucboc (l : Launch) (Z : State) (a0 : Array Value) (hw : ∀ d ∈ tables_1, d.before a0 Z = true) {zc : Int32} {fm : Value} {em : Nat}  (G : Gl Z zc fm em) (n0 : Nat) (h0 : Heap) (O0 : Old Z n0 h0) (n : Nat) (nv : Int32) (N : Nat) (d : Nat) (kd : ClassId) (bs : List Value) (dv : Value) (hnv : nv = Int32.ofNat n) (hnN : n ≤ N) (hN : N < 1073741824)  (q0 : Arv Z h0 d kd .byte (Int32.ofNat (2 * N)) bs dv) :
    MetF l [] Z n0 (⟨"java/lang/StringUTF16", "checkBoundsOffCount", "(II[B)V"⟩ : MethodName) jdk_52_method_94_code 3 (Option.none : Option FieldType) ({ frames := 2, cells := 0, slots := 0, locals := 29 } : Room) #[(.int (0 : Int32)), (.int nv), (.ref d)] h0 [] (fun r h' => r = none ∧ True) := by
  refine metF (plainFor_of_name pn_0) O0 (Ls := #[.val (.int (0 : Int32)), .val (.int nv), .val (.ref d)]) (fun m => by first | rfl | (simp [entryFrame, mkF, argsToLocals, Value.category]; done)) ?_
  intro p e s m below meth c T0 X0
  have K0_h0 := Keep.refl h0 []
  have n0le := X0.n0le
  have ltq0 := own_n q0.lt
  obtain ⟨G_cs, G_zc, G_fm, isref_fm, G_assertionsDisabled, G_HI_BYTE_SHIFT, G_LO_BYTE_SHIFT, GS_em, GE_em, GF_em⟩ := id G
  have oz := X0.old.1
  have ltz0 := own_n GE_em.lt
  refine k_iloadN X0 d_jdk_52_94_0 rfl (pc' := 1) rfl ?_
  refine k_iloadN X0 d_jdk_52_94_1 rfl (pc' := 2) rfl ?_
  refine k_aloadN X0 d_jdk_52_94_2 rfl rfl (pc' := 3) rfl ?_
  refine k_callSVF X0 (y := (⟨"java/lang/StringUTF16", "length", "([B)I"⟩ : MethodName)) d_jdk_52_94_3 (w_110 hw) (w_111 hw) (w_21 hw) (w_112 hw) (by decide) (argsL := [(.ref d)]) (rest := [(.int nv), (.int (0 : Int32))]) (own_ulen l Z a0 hw G n0 h0 X0.old d kd N bs dv hN q0) rfl pd_11 rfl rfl (by decide) (W := 2) (Nat.le_of_eq rfl) (by decide) (by decide) (by decide) all0 (pc' := 6) rfl ?_
  rintro _ T217 h217 L217 X217 K217 ⟨rfl, -⟩
  have sz_h217 := K217.1
  have K0_h217 : Keep h0 h217 [] := K0_h0.trans K217 all0
  refine k_callSVF X217 (y := (⟨"java/lang/String", "checkBoundsOffCount", "(III)I"⟩ : MethodName)) d_jdk_52_94_6 (w_139 hw) (w_140 hw) (w_7 hw) (w_141 hw) (by decide) (argsL := [(.int (0 : Int32)), (.int nv), (.int (Int32.ofNat N))]) (rest := []) (own_cboc l Z a0 hw G n0 h217 X217.old nv (Int32.ofNat N) (by rw [hnv]; exact own_orn (by omega) (by omega)) (by rw [hnv]; exact own_nlt (by omega) (by omega)) ) rfl pd_17 rfl rfl (by decide) (W := 0) (Nat.le_of_eq rfl) (by decide) (by decide) (by decide) all0 (pc' := 9) rfl ?_
  rintro _ T219 h219 L219 X219 K219 ⟨rfl, -⟩
  have sz_h219 := K219.1
  have K0_h219 : Keep h0 h219 [] := K0_h217.trans K219 all0
  refine k_pop X219 d_jdk_52_94_9 rfl (pc' := 10) rfl ?_
  exact k_retFV X219 d_jdk_52_94_10 rfl K0_h219 ⟨rfl, trivial⟩ (by decide) (by decide)
set_option maxRecDepth 65536 in
set_option maxHeartbeats 40000000 in
theorem own_cmpB (l : Launch) (Z : State) (a0 : Array Value) (hw : ∀ d ∈ tables_1, d.before a0 Z = true) {zc : Int32} {fm : Value} {em : Nat}  (G : Gl Z zc fm em) (n0 : Nat) (h0 : Heap) (O0 : Old Z n0 h0) (b : Nat) (d : Nat) (kb : ClassId) (kd : ClassId) (nv : Int32) (n : Nat) (cs : List Int32) (vs : List Value) (hne : b ≠ d) (hnv : nv = Int32.ofNat n) (hn : n ≤ cs.length) (hb0 : cs.length < 1073741824) (hv : vs.length = n) (hr : own_chs cs) (gw0 : n0 ≤ d) (q0 : Arv Z h0 b kb .byte (Int32.ofNat (2 * cs.length)) (own_u16 cs) (.int (0 : Int32))) (q1 : Arv Z h0 d kd .byte nv vs (.int (0 : Int32))) :
    MetF l [] Z n0 (⟨"java/lang/StringUTF16", "compress", "([BI[BII)I"⟩ : MethodName) jdk_52_method_22_code 7 (Option.some FieldType.int) ({ frames := 3, cells := 0, slots := 0, locals := 43 } : Room) #[(.ref b), (.int (0 : Int32)), (.ref d), (.int (0 : Int32)), (.int nv)] h0 [d] (fun r h' => ∃ w, r = some w ∧ w = (.int (Int32.ofNat (own_fst (cs.take n)))) ∧ (Arv Z h' d kd .byte nv (((cs.take n).take (own_fst (cs.take n))).map own_lo ++ vs.drop (own_fst (cs.take n))) (.int (0 : Int32)))) := by
  refine metF (plainFor_of_name pn_0) O0 (Ls := #[.val (.ref b), .val (.int (0 : Int32)), .val (.ref d), .val (.int (0 : Int32)), .val (.int nv), .unset, .unset]) (fun m => by first | rfl | (simp [entryFrame, mkF, argsToLocals, Value.category]; done)) ?_
  intro p e s m below meth c T0 X0
  have K0_h0 := Keep.refl h0 [d]
  have n0le := X0.n0le
  have ltq0 := own_n q0.lt
  have ltq1 := own_n q1.lt
  obtain ⟨G_cs, G_zc, G_fm, isref_fm, G_assertionsDisabled, G_HI_BYTE_SHIFT, G_LO_BYTE_SHIFT, GS_em, GE_em, GF_em⟩ := id G
  have oz := X0.old.1
  have ltz0 := own_n GE_em.lt
  have hdl : (cs.take n).length = n := by rw [List.length_take]; omega
  have hfl : own_fst (cs.take n) ≤ n := by have q := own_fst_le (cs.take n); omega
  have loop : ∀ (k i : Nat) (T : State) (h : Heap) (L : List Loc) (s6 : Slot), k = own_fst (cs.take n) - i → i ≤ own_fst (cs.take n) → One s6 → WP p l e ({ frames := 3, cells := 0, slots := 0, locals := 43 } : Room) s m #[(.ref b), (.int (0 : Int32)), (.ref d), (.int (0 : Int32)), (.int nv)] below meth c Z "java/lang/StringUTF16" "compress" jdk_52_method_22_code 7 (Option.some FieldType.int) n0 (fun _ => True) (fun _ _ => True) T h L 0 0 → Keep h0 h [d] → Arv Z h b kb .byte (Int32.ofNat (2 * cs.length)) (own_u16 cs) (.int (0 : Int32)) → Arv Z h d kd .byte nv (((cs.take n).take i).map own_lo ++ vs.drop i) (.int (0 : Int32)) → Run p.tables e below (PF s below n0 h0 [d] (fun r h' => ∃ w, r = some w ∧ w = (.int (Int32.ofNat (own_fst (cs.take n)))) ∧ (Arv Z h' d kd .byte nv (((cs.take n).take (own_fst (cs.take n))).map own_lo ++ vs.drop (own_fst (cs.take n))) (.int (0 : Int32)))) ({ frames := 3, cells := 0, slots := 0, locals := 43 } : Room).cells ({ frames := 3, cells := 0, slots := 0, locals := 43 } : Room).slots) T (mkF m 10 #[.val (.ref b), .val (.int (Int32.ofNat i)), .val (.ref d), .val (.int (Int32.ofNat i)), .val (.int nv), .val (.int (Int32.ofNat i)), s6] []) := by
    intro k
    induction k with
    | zero =>
      intro i T h L s6 hki hij h6 X K Vb Vd
      have hi : i = own_fst (cs.take n) := by omega
      subst hi
      have lb := own_n Vb.lt
      have ld := own_n Vd.lt
      have lh0 := K.1
      have lb0 := own_n q0.lt
      have ld0 := own_n q1.lt
      have nle := X.n0le
      by_cases hc221 : own_fst (cs.take n) < n
      · have hlt := own_lt hc221 (show n < 2147483648 by omega)
        rw [← hnv] at hlt
        have hcl : own_fst (cs.take n) < cs.length := by omega
        refine k_iload X d_jdk_52_22_10 rfl (pc' := 12) rfl ?_
        refine k_iload X d_jdk_52_22_12 rfl (pc' := 14) rfl ?_
        refine k_icmpNo X d_jdk_52_22_14 (tlt hlt).2.1 (pc' := 17) rfl ?_
        refine k_aloadN X d_jdk_52_22_17 rfl rfl (pc' := 18) rfl ?_
        refine k_iloadN X d_jdk_52_22_18 rfl (pc' := 19) rfl ?_
        refine k_callSVF X (y := (⟨"java/lang/StringUTF16", "getChar", "([BI)C"⟩ : MethodName)) d_jdk_52_22_19 (w_98 hw) (w_99 hw) (w_21 hw) (w_100 hw) (by decide) (argsL := [(.ref b), (.int (Int32.ofNat (own_fst (cs.take n))))]) (rest := []) (own_getC l Z a0 hw G n0 h X.old b kb (Int32.ofNat (2 * cs.length)) cs (own_fst (cs.take n)) (Int32.ofNat (own_fst (cs.take n))) rfl hcl rfl (by omega) (own_chs_at hr hcl) Vb) rfl pd_6 rfl rfl (by decide) (W := 0) (Nat.le_of_eq rfl) (by decide) (by decide) (by decide) all0 (pc' := 22) rfl ?_
        rintro _ T222 h222 L222 X222 K222 ⟨rfl, -⟩
        have sz_h222 := K222.1
        have K0_h222 : Keep h0 h222 [d] := K.trans K222 all0
        have hhi := own_fst_hi (cs.take n) (by omega)
        rw [own_takeg hc221] at hhi
        refine k_istore X222 d_jdk_52_22_22 (Ls' := #[.val (.ref b), .val (.int (Int32.ofNat (own_fst (cs.take n)))), .val (.ref d), .val (.int (Int32.ofNat (own_fst (cs.take n)))), .val (.int nv), .val (.int (Int32.ofNat (own_fst (cs.take n)))), .val (.int (cs.getD (own_fst (cs.take n)) 0))]) (own_store h6 ⟨_, rfl⟩) (pc' := 24) rfl ?_
        refine k_iload X222 d_jdk_52_22_24 rfl (pc' := 26) rfl ?_
        refine k_sipush X222 d_jdk_52_22_26 (w := (255 : Int32)) rfl (pc' := 29) rfl ?_
        refine k_icmpNo X222 d_jdk_52_22_29 (tlt hhi).2.2.2 (pc' := 32) rfl ?_
        refine k_iload X222 d_jdk_52_22_32 rfl (pc' := 34) rfl ?_
        have c224 := (Vd.keep K222 nin0)
        exact k_retFI X222 d_jdk_52_22_34 rfl K0_h222 ⟨_, rfl, rfl, c224⟩ (by decide) (by decide)
      · have he : own_fst (cs.take n) = n := by omega
        have hnl : ¬ (Int32.ofNat (own_fst (cs.take n)) < nv) := by rw [he, ← hnv]; exact Int32.lt_irrefl
        refine k_iload X d_jdk_52_22_10 rfl (pc' := 12) rfl ?_
        refine k_iload X d_jdk_52_22_12 rfl (pc' := 14) rfl ?_
        refine k_icmpYes X d_jdk_52_22_14 (flt hnl).2.1 (pc' := 53) (by decide) (by decide) ?_
        refine k_iload X d_jdk_52_22_53 rfl (pc' := 55) rfl ?_
        exact k_retFI X d_jdk_52_22_55 rfl K ⟨_, rfl, by rw [he, ← hnv], Vd⟩ (by decide) (by decide)
    | succ k ih =>
      intro i T h L s6 hki hij h6 X K Vb Vd
      have hi : i < own_fst (cs.take n) := by omega
      have hin : i < n := by omega
      have hcl : i < cs.length := by omega
      have hlt := own_lt hin (show n < 2147483648 by omega)
      rw [← hnv] at hlt
      have hle := own_fst_lo (cs.take n) i hi
      have hge : cs.getD i 0 = (cs.take n).getD i 0 := (own_takeg hin).symm
      have lb := own_n Vb.lt
      have ld := own_n Vd.lt
      have lh0 := K.1
      have lb0 := own_n q0.lt
      have ld0 := own_n q1.lt
      have nle := X.n0le
      refine k_iload X d_jdk_52_22_10 rfl (pc' := 12) rfl ?_
      refine k_iload X d_jdk_52_22_12 rfl (pc' := 14) rfl ?_
      refine k_icmpNo X d_jdk_52_22_14 (tlt hlt).2.1 (pc' := 17) rfl ?_
      refine k_aloadN X d_jdk_52_22_17 rfl rfl (pc' := 18) rfl ?_
      refine k_iloadN X d_jdk_52_22_18 rfl (pc' := 19) rfl ?_
      refine k_callSVF X (y := (⟨"java/lang/StringUTF16", "getChar", "([BI)C"⟩ : MethodName)) d_jdk_52_22_19 (w_98 hw) (w_99 hw) (w_21 hw) (w_100 hw) (by decide) (argsL := [(.ref b), (.int (Int32.ofNat i))]) (rest := []) (own_getC l Z a0 hw G n0 h X.old b kb (Int32.ofNat (2 * cs.length)) cs i (Int32.ofNat i) rfl hcl rfl (by omega) (own_chs_at hr hcl) Vb) rfl pd_6 rfl rfl (by decide) (W := 0) (Nat.le_of_eq rfl) (by decide) (by decide) (by decide) all0 (pc' := 22) rfl ?_
      rintro _ T225 h225 L225 X225 K225 ⟨rfl, -⟩
      have sz_h225 := K225.1
      have K0_h225 : Keep h0 h225 [d] := K.trans K225 all0
      rw [hge]
      refine k_istore X225 d_jdk_52_22_22 (Ls' := #[.val (.ref b), .val (.int (Int32.ofNat i)), .val (.ref d), .val (.int (Int32.ofNat i)), .val (.int nv), .val (.int (Int32.ofNat i)), .val (.int ((cs.take n).getD i 0))]) (own_store h6 ⟨_, rfl⟩) (pc' := 24) rfl ?_
      refine k_iload X225 d_jdk_52_22_24 rfl (pc' := 26) rfl ?_
      refine k_sipush X225 d_jdk_52_22_26 (w := (255 : Int32)) rfl (pc' := 29) rfl ?_
      refine k_icmpYes X225 d_jdk_52_22_29 (flt hle).2.2.2 (pc' := 35) (by decide) (by decide) ?_
      refine k_aloadN X225 d_jdk_52_22_35 rfl rfl (pc' := 36) rfl ?_
      refine k_iloadN X225 d_jdk_52_22_36 rfl (pc' := 37) rfl ?_
      refine k_iload X225 d_jdk_52_22_37 rfl (pc' := 39) rfl ?_
      refine k_i2b X225 d_jdk_52_22_39 (w := (((cs.take n).getD i 0).toInt8.toInt32)) rfl (pc' := 40) rfl ?_
      have c227 := (Vd.keep K225 nin0)
      have ge229 : n0 ≤ d := by omega
      refine k_bastore X225 (w := (((cs.take n).getD i 0).toInt8.toInt32)) (i) d_jdk_52_22_40 c227 (own_nn (by omega)) hlt (own_clamp (by omega)) (by simp only [List.length_append, List.length_map, List.length_take, List.length_drop]; omega) (own_i2b _) (vs' := (((cs.take n).take (i + 1)).map own_lo ++ vs.drop (i + 1))) (own_turn (cs.take n) vs i (by omega) (by omega)) trivial ge229 (pc' := 41) rfl fun T228 h228 L228 X228 K228 V228 => ?_
      have sz_h228 := K228.1
      have K0_h228 : Keep h0 h228 [d] := K0_h225.trans K228 (allS (Or.inl (List.mem_of_getElem? (i := 0) rfl)) all0)
      refine k_iinc X228 d_jdk_52_22_41 rfl (w := (Int32.ofNat (i + 1))) (own_succ i) (Ls' := #[.val (.ref b), .val (.int (Int32.ofNat (i + 1))), .val (.ref d), .val (.int (Int32.ofNat i)), .val (.int nv), .val (.int (Int32.ofNat i)), .val (.int ((cs.take n).getD i 0))]) rfl (pc' := 44) rfl ?_
      refine k_iinc X228 d_jdk_52_22_44 rfl (w := (Int32.ofNat (i + 1))) (own_succ i) (Ls' := #[.val (.ref b), .val (.int (Int32.ofNat (i + 1))), .val (.ref d), .val (.int (Int32.ofNat (i + 1))), .val (.int nv), .val (.int (Int32.ofNat i)), .val (.int ((cs.take n).getD i 0))]) rfl (pc' := 47) rfl ?_
      refine k_iinc X228 d_jdk_52_22_47 rfl (w := (Int32.ofNat (i + 1))) (own_succ i) (Ls' := #[.val (.ref b), .val (.int (Int32.ofNat (i + 1))), .val (.ref d), .val (.int (Int32.ofNat (i + 1))), .val (.int nv), .val (.int (Int32.ofNat (i + 1))), .val (.int ((cs.take n).getD i 0))]) rfl (pc' := 50) rfl ?_
      refine k_goto X228 d_jdk_52_22_50 (pc' := 10) (by decide) (by decide) ?_
      have c230 := ((Vb.keep K225 nin0).keep K228 (ninS (own_ne (by omega) : b ≠ d) nin0))
      exact ih (i + 1) _ _ _ _ (by omega) (by omega) (One.val rfl) X228 K0_h228 c230 V228
  refine k_iloadN X0 d_jdk_52_22_0 rfl (pc' := 1) rfl ?_
  refine k_iload X0 d_jdk_52_22_1 rfl (pc' := 3) rfl ?_
  refine k_aloadN X0 d_jdk_52_22_3 rfl rfl (pc' := 4) rfl ?_
  refine k_callSNF X0 (y := (⟨"java/lang/StringUTF16", "checkBoundsOffCount", "(II[B)V"⟩ : MethodName)) d_jdk_52_22_4 (w_136 hw) (w_137 hw) (w_21 hw) (w_138 hw) (by decide) (argsL := [(.int (0 : Int32)), (.int nv), (.ref b)]) (rest := []) (own_ucboc l Z a0 hw G n0 h0 X0.old n nv (cs.length) b kb (own_u16 cs) (.int (0 : Int32)) hnv hn hb0 q0) rfl pd_18 rfl rfl (by decide) (W := 0) (Nat.le_of_eq rfl) (by decide) (by decide) (by decide) all0 (pc' := 7) rfl ?_
  rintro T231 h231 L231 X231 K231 -
  have sz_h231 := K231.1
  have K0_h231 : Keep h0 h231 [d] := K0_h0.trans K231 all0
  refine k_iconst X231 d_jdk_52_22_7 (w := (0 : Int32)) rfl (pc' := 8) rfl ?_
  refine k_istore X231 d_jdk_52_22_8 (Ls' := #[.val (.ref b), .val (.int (0 : Int32)), .val (.ref d), .val (.int (0 : Int32)), .val (.int nv), .val (.int (0 : Int32)), .unset]) rfl (pc' := 10) rfl ?_
  have c232 := (q0.keep K231 nin0)
  have c233 := (q1.keep K231 nin0)
  exact loop _ 0 _ _ _ _ rfl (by omega) One.u X231 K0_h231 c232 (by simpa using c233)
set_option maxRecDepth 65536 in
set_option maxHeartbeats 40000000 in
theorem own_cmpB3L (l : Launch) (Z : State) (a0 : Array Value) (hw : ∀ d ∈ tables_1, d.before a0 Z = true) {zc : Int32} {fm : Value} {em : Nat}  (G : Gl Z zc fm em) (n0 : Nat) (h0 : Heap) (O0 : Old Z n0 h0) (b : Nat) (kb : ClassId) (nv : Int32) (n : Nat) (cs : List Int32) (hnv : nv = Int32.ofNat n) (hn : n < cs.length) (hb0 : cs.length < 536870912) (hcap : n ≤ 44) (hr : own_chs cs) (hfL : own_fst (cs.take n) = n)  (q0 : Arv Z h0 b kb .byte (Int32.ofNat (2 * cs.length)) (own_u16 cs) (.int (0 : Int32))) :
    MetF l [] Z n0 (⟨"java/lang/StringUTF16", "compress", "([BII)[B"⟩ : MethodName) jdk_52_method_17_code 6 (Option.some (FieldType.array FieldType.byte)) ({ frames := 4, cells := 1, slots := 44, locals := 61 } : Room) #[(.ref b), (.int (0 : Int32)), (.int nv)] h0 [] (fun r h' => ∃ w, r = some w ∧ ∃ (t : Nat), ∃ (kt : ClassId), w = (.ref t) ∧ (Arv Z h' t kt .byte nv (own_lat (cs.take n)) (.int (0 : Int32))) ∧ (h0.size ≤ t)) := by
  refine metF (plainFor_of_name pn_0) O0 (Ls := #[.val (.ref b), .val (.int (0 : Int32)), .val (.int nv), .unset, .unset, .unset]) (fun m => by first | rfl | (simp [entryFrame, mkF, argsToLocals, Value.category]; done)) ?_
  intro p e s m below meth c T0 X0
  have K0_h0 := Keep.refl h0 []
  have n0le := X0.n0le
  have ltq0 := own_n q0.lt
  obtain ⟨G_cs, G_zc, G_fm, isref_fm, G_assertionsDisabled, G_HI_BYTE_SHIFT, G_LO_BYTE_SHIFT, GS_em, GE_em, GF_em⟩ := id G
  have oz := X0.old.1
  have ltz0 := own_n GE_em.lt
  have hdl : (cs.take n).length = n := by rw [List.length_take]; omega
  have hnz : ¬ nv < 0 := by rw [hnv]; exact own_nn (by omega)
  have hcl : nv.toNatClampNeg = n := by rw [hnv]; exact own_clamp (by omega)
  refine k_iloadN X0 d_jdk_52_17_0 rfl (pc' := 1) rfl ?_
  refine k_newP X0 d_jdk_52_17_1 (w_23 hw) hnz (cap := 44) (by omega) (by decide) (by decide) (by decide) (pc' := 3) rfl fun T234 h234 b234 k234 g234 X234 K234 V234 S234 lt234 ge234 => ?_
  have sz_h234 := K234.1
  have K0_h234 : Keep h0 h234 [] := K0_h0.trans K234 all0
  have Vp : Arv Z h234 b234 k234 .byte nv (List.replicate n (.int (0 : Int32))) (.int (0 : Int32)) := Arv.pad V234 (fun i => by simpa using pad_rep [] (.int (0 : Int32)) n i)
  refine k_astoreN X234 d_jdk_52_17_3 rfl (Ls' := #[.val (.ref b), .val (.int (0 : Int32)), .val (.int nv), .val (.ref b234), .unset, .unset]) rfl (pc' := 4) rfl ?_
  refine k_aloadN X234 d_jdk_52_17_4 rfl rfl (pc' := 5) rfl ?_
  refine k_iloadN X234 d_jdk_52_17_5 rfl (pc' := 6) rfl ?_
  refine k_aloadN X234 d_jdk_52_17_6 rfl rfl (pc' := 7) rfl ?_
  refine k_iconst X234 d_jdk_52_17_7 (w := (0 : Int32)) rfl (pc' := 8) rfl ?_
  refine k_iloadN X234 d_jdk_52_17_8 rfl (pc' := 9) rfl ?_
  have c235 := (q0.keep K234 nin0)
  have ge236 : n0 ≤ b234 := by omega
  refine k_callSVF X234 (y := (⟨"java/lang/StringUTF16", "compress", "([BI[BII)I"⟩ : MethodName)) d_jdk_52_17_9 (w_133 hw) (w_134 hw) (w_21 hw) (w_135 hw) (by decide) (argsL := [(.ref b), (.int (0 : Int32)), (.ref b234), (.int (0 : Int32)), (.int nv)]) (rest := []) (own_cmpB l Z a0 hw G n0 h234 X234.old b b234 kb k234 nv n cs (List.replicate n (.int (0 : Int32))) (by omega) hnv (by omega) (by omega) (by simp) hr (by omega) c235 Vp) rfl pd_19 rfl rfl (by decide) (W := 0) (Nat.le_of_eq rfl) (by decide) (by decide) (by decide) (allS ⟨trivial, ge236⟩ all0) (pc' := 12) rfl ?_
  rintro _ T237 h237 L237 X237 K237 ⟨rfl, q237_0⟩
  have sz_h237 := K237.1
  have K0_h237 : Keep h0 h237 [] := K0_h234.trans K237 (allS (Or.inr (by omega)) all0)
  have lt237_0 := own_n q237_0.lt
  refine k_istore X237 d_jdk_52_17_12 (Ls' := #[.val (.ref b), .val (.int (0 : Int32)), .val (.int nv), .val (.ref b234), .val (.int (Int32.ofNat (own_fst (cs.take n)))), .unset]) rfl (pc' := 14) rfl ?_
  refine k_iload X237 d_jdk_52_17_14 rfl (pc' := 16) rfl ?_
  refine k_iloadN X237 d_jdk_52_17_16 rfl (pc' := 17) rfl ?_
  have hz2 : Int32.ofNat (own_fst (cs.take n)) = nv := by rw [hfL, ← hnv]
  refine k_icmpYes X237 d_jdk_52_17_17 (teq hz2).1 (pc' := 64) (by decide) (by decide) ?_
  refine k_aloadN X237 d_jdk_52_17_64 rfl rfl (pc' := 65) rfl ?_
  have Vl : Arv Z h237 b234 k234 .byte nv (own_lat (cs.take n)) (.int (0 : Int32)) := by simpa [hfL, own_lat, List.take_take] using q237_0
  exact k_retFA X237 d_jdk_52_17_65 rfl rfl rfl rfl K0_h237 ⟨_, rfl, _, _, rfl, Vl, by omega⟩ (by decide) (by decide)
set_option maxRecDepth 65536 in
set_option maxHeartbeats 40000000 in
theorem own_cmpB3U (l : Launch) (Z : State) (a0 : Array Value) (hw : ∀ d ∈ tables_1, d.before a0 Z = true) {zc : Int32} {fm : Value} {em : Nat}  (G : Gl Z zc fm em) (n0 : Nat) (h0 : Heap) (O0 : Old Z n0 h0) (b : Nat) (kb : ClassId) (nv : Int32) (n : Nat) (cs : List Int32) (hnv : nv = Int32.ofNat n) (hn : n < cs.length) (hb0 : cs.length < 536870912) (hcap : n ≤ 44) (hr : own_chs cs) (hfU : own_fst (cs.take n) < n)  (q0 : Arv Z h0 b kb .byte (Int32.ofNat (2 * cs.length)) (own_u16 cs) (.int (0 : Int32))) :
    MetF l [] Z n0 (⟨"java/lang/StringUTF16", "compress", "([BII)[B"⟩ : MethodName) jdk_52_method_17_code 6 (Option.some (FieldType.array FieldType.byte)) ({ frames := 4, cells := 2, slots := 132, locals := 61 } : Room) #[(.ref b), (.int (0 : Int32)), (.int nv)] h0 [] (fun r h' => ∃ w, r = some w ∧ ∃ (t : Nat), ∃ (kt : ClassId), w = (.ref t) ∧ (Arv Z h' t kt .byte (Int32.ofNat (2 * n)) (own_u16 (cs.take n)) (.int (0 : Int32))) ∧ (h0.size ≤ t)) := by
  refine metF (plainFor_of_name pn_0) O0 (Ls := #[.val (.ref b), .val (.int (0 : Int32)), .val (.int nv), .unset, .unset, .unset]) (fun m => by first | rfl | (simp [entryFrame, mkF, argsToLocals, Value.category]; done)) ?_
  intro p e s m below meth c T0 X0
  have K0_h0 := Keep.refl h0 []
  have n0le := X0.n0le
  have ltq0 := own_n q0.lt
  obtain ⟨G_cs, G_zc, G_fm, isref_fm, G_assertionsDisabled, G_HI_BYTE_SHIFT, G_LO_BYTE_SHIFT, GS_em, GE_em, GF_em⟩ := id G
  have oz := X0.old.1
  have ltz0 := own_n GE_em.lt
  have hdl : (cs.take n).length = n := by rw [List.length_take]; omega
  have hnz : ¬ nv < 0 := by rw [hnv]; exact own_nn (by omega)
  have hcl : nv.toNatClampNeg = n := by rw [hnv]; exact own_clamp (by omega)
  refine k_iloadN X0 d_jdk_52_17_0 rfl (pc' := 1) rfl ?_
  refine k_newP X0 d_jdk_52_17_1 (w_23 hw) hnz (cap := 44) (by omega) (by decide) (by decide) (by decide) (pc' := 3) rfl fun T239 h239 b239 k239 g239 X239 K239 V239 S239 lt239 ge239 => ?_
  have sz_h239 := K239.1
  have K0_h239 : Keep h0 h239 [] := K0_h0.trans K239 all0
  have Vp : Arv Z h239 b239 k239 .byte nv (List.replicate n (.int (0 : Int32))) (.int (0 : Int32)) := Arv.pad V239 (fun i => by simpa using pad_rep [] (.int (0 : Int32)) n i)
  refine k_astoreN X239 d_jdk_52_17_3 rfl (Ls' := #[.val (.ref b), .val (.int (0 : Int32)), .val (.int nv), .val (.ref b239), .unset, .unset]) rfl (pc' := 4) rfl ?_
  refine k_aloadN X239 d_jdk_52_17_4 rfl rfl (pc' := 5) rfl ?_
  refine k_iloadN X239 d_jdk_52_17_5 rfl (pc' := 6) rfl ?_
  refine k_aloadN X239 d_jdk_52_17_6 rfl rfl (pc' := 7) rfl ?_
  refine k_iconst X239 d_jdk_52_17_7 (w := (0 : Int32)) rfl (pc' := 8) rfl ?_
  refine k_iloadN X239 d_jdk_52_17_8 rfl (pc' := 9) rfl ?_
  have c240 := (q0.keep K239 nin0)
  have ge241 : n0 ≤ b239 := by omega
  refine k_callSVF X239 (y := (⟨"java/lang/StringUTF16", "compress", "([BI[BII)I"⟩ : MethodName)) d_jdk_52_17_9 (w_133 hw) (w_134 hw) (w_21 hw) (w_135 hw) (by decide) (argsL := [(.ref b), (.int (0 : Int32)), (.ref b239), (.int (0 : Int32)), (.int nv)]) (rest := []) (own_cmpB l Z a0 hw G n0 h239 X239.old b b239 kb k239 nv n cs (List.replicate n (.int (0 : Int32))) (by omega) hnv (by omega) (by omega) (by simp) hr (by omega) c240 Vp) rfl pd_19 rfl rfl (by decide) (W := 0) (Nat.le_of_eq rfl) (by decide) (by decide) (by decide) (allS ⟨trivial, ge241⟩ all0) (pc' := 12) rfl ?_
  rintro _ T242 h242 L242 X242 K242 ⟨rfl, q242_0⟩
  have sz_h242 := K242.1
  have K0_h242 : Keep h0 h242 [] := K0_h239.trans K242 (allS (Or.inr (by omega)) all0)
  have lt242_0 := own_n q242_0.lt
  refine k_istore X242 d_jdk_52_17_12 (Ls' := #[.val (.ref b), .val (.int (0 : Int32)), .val (.int nv), .val (.ref b239), .val (.int (Int32.ofNat (own_fst (cs.take n)))), .unset]) rfl (pc' := 14) rfl ?_
  refine k_iload X242 d_jdk_52_17_14 rfl (pc' := 16) rfl ?_
  refine k_iloadN X242 d_jdk_52_17_16 rfl (pc' := 17) rfl ?_
  have hz2 : ¬ (Int32.ofNat (own_fst (cs.take n)) = nv) := by rw [hnv]; intro q; have := own_lt hfU (by omega); rw [q] at this; exact Int32.lt_irrefl this
  refine k_icmpNo X242 d_jdk_52_17_17 (feq hz2).1 (pc' := 20) rfl ?_
  refine k_aloadN X242 d_jdk_52_17_20 rfl rfl (pc' := 21) rfl ?_
  refine k_iloadN X242 d_jdk_52_17_21 rfl (pc' := 22) rfl ?_
  refine k_iconst X242 d_jdk_52_17_22 (w := (1 : Int32)) rfl (pc' := 23) rfl ?_
  refine k_ishl X242 d_jdk_52_17_23 (w := (0 : Int32)) (by decide) (pc' := 24) rfl ?_
  refine k_iloadN X242 d_jdk_52_17_24 rfl (pc' := 25) rfl ?_
  refine k_iloadN X242 d_jdk_52_17_25 rfl (pc' := 26) rfl ?_
  refine k_iadd X242 d_jdk_52_17_26 (w := (Int32.ofNat n)) (by rw [hnv]; exact Int32.zero_add _) (pc' := 27) rfl ?_
  refine k_callSVF X242 (y := (⟨"java/lang/StringUTF16", "newBytesLength", "(I)I"⟩ : MethodName)) d_jdk_52_17_27 (w_88 hw) (w_89 hw) (w_21 hw) (w_90 hw) (by decide) (argsL := [(.int (Int32.ofNat n))]) (rest := [(.int (0 : Int32)), (.ref b)]) (own_nbl l Z a0 hw G n0 h242 X242.old n (Int32.ofNat n) rfl (by omega) ) rfl pd_3 rfl rfl (by decide) (W := 2) (Nat.le_of_eq rfl) (by decide) (by decide) (by decide) all0 (pc' := 30) rfl ?_
  rintro _ T244 h244 L244 X244 K244 ⟨rfl, -⟩
  have sz_h244 := K244.1
  have K0_h244 : Keep h0 h244 [] := K0_h242.trans K244 all0
  have c246 := ((c240.keep K242 (ninS (own_ne (by omega) : b ≠ b239) nin0)).keep K244 nin0)
  refine k_callSVF X244 (y := (⟨"java/util/Arrays", "copyOfRange", "([BII)[B"⟩ : MethodName)) d_jdk_52_17_30 (w_145 hw) (w_146 hw) (w_147 hw) (w_148 hw) (by decide) (argsL := [(.ref b), (.int (0 : Int32)), (.int (Int32.ofNat (2 * n)))]) (rest := []) (own_cor l Z a0 hw G n0 h244 X244.old b kb (Int32.ofNat (2 * cs.length)) (own_u16 cs) (2 * cs.length) 0 (2 * n) (0 : Int32) (Int32.ofNat (2 * n)) rfl (own_u16len cs) rfl (by rw [Nat.zero_add]) (by omega) (by omega) (by omega) (by omega) c246) rfl pd_15 rfl rfl (by decide) (W := 0) (Nat.le_of_eq rfl) (by decide) (by decide) (by decide) all0 (pc' := 33) rfl ?_
  rintro _ T249 h249 L249 X249 K249 ⟨t_247, kt_248, rfl, q249_0, q249_1⟩
  have sz_h249 := K249.1
  have K0_h249 : Keep h0 h249 [] := K0_h244.trans K249 all0
  have lt249_0 := own_n q249_0.lt
  have e2 : ((own_u16 cs).drop 0).take (2 * n) = own_u16 (cs.take n) := by rw [List.drop_zero]; exact own_u16_take cs n
  rw [e2] at q249_0
  have V2 : Arv Z h249 t_247 kt_248 .byte (Int32.ofNat (2 * (cs.take n).length)) (own_u16 (cs.take n)) (.int (0 : Int32)) := by rw [hdl]; exact q249_0
  have hfd : own_fst (cs.take n) < (cs.take n).length := by omega
  refine k_astore X249 d_jdk_52_17_33 rfl (Ls' := #[.val (.ref b), .val (.int (0 : Int32)), .val (.int nv), .val (.ref b239), .val (.int (Int32.ofNat (own_fst (cs.take n)))), .val (.ref t_247)]) rfl (pc' := 35) rfl ?_
  refine k_aload X249 d_jdk_52_17_35 rfl rfl (pc' := 37) rfl ?_
  refine k_iload X249 d_jdk_52_17_37 rfl (pc' := 39) rfl ?_
  refine k_callSVF X249 (y := (⟨"java/lang/StringUTF16", "getChar", "([BI)C"⟩ : MethodName)) d_jdk_52_17_39 (w_98 hw) (w_99 hw) (w_21 hw) (w_100 hw) (by decide) (argsL := [(.ref t_247), (.int (Int32.ofNat (own_fst (cs.take n))))]) (rest := []) (own_getC l Z a0 hw G n0 h249 X249.old t_247 kt_248 (Int32.ofNat (2 * (cs.take n).length)) (cs.take n) (own_fst (cs.take n)) (Int32.ofNat (own_fst (cs.take n))) rfl hfd rfl (by omega) (own_chs_at (own_chs_take hr n) hfd) V2) rfl pd_6 rfl rfl (by decide) (W := 0) (Nat.le_of_eq rfl) (by decide) (by decide) (by decide) all0 (pc' := 42) rfl ?_
  rintro _ T251 h251 L251 X251 K251 ⟨rfl, -⟩
  have sz_h251 := K251.1
  have K0_h251 : Keep h0 h251 [] := K0_h249.trans K251 all0
  refine k_sipush X251 d_jdk_52_17_42 (w := (255 : Int32)) rfl (pc' := 45) rfl ?_
  refine k_icmpYes X251 d_jdk_52_17_45 (tlt (own_fst_hi _ hfd)).2.2.1 (pc' := 61) (by decide) (by decide) ?_
  refine k_aload X251 d_jdk_52_17_61 rfl rfl (pc' := 63) rfl ?_
  have c253 := (V2.keep K251 nin0)
  have V3 : Arv Z h251 t_247 kt_248 .byte (Int32.ofNat (2 * n)) (own_u16 (cs.take n)) (.int (0 : Int32)) := by have q := c253; rw [hdl] at q; exact q
  exact k_retFA X251 d_jdk_52_17_63 rfl rfl rfl rfl K0_h251 ⟨_, rfl, _, _, rfl, V3, by omega⟩ (by decide) (by decide)
set_option maxRecDepth 65536 in
set_option maxHeartbeats 40000000 in
theorem own_nsL (l : Launch) (Z : State) (a0 : Array Value) (hw : ∀ d ∈ tables_1, d.before a0 Z = true) {zc : Int32} {fm : Value} {em : Nat}  (G : Gl Z zc fm em) (n0 : Nat) (h0 : Heap) (O0 : Old Z n0 h0) (b : Nat) (kb : ClassId) (z : Int32) (cs : List Int32) (f : Nat) (n : Nat) (fv : Int32) (nv : Int32) (hz : z = Int32.ofNat cs.length) (hfv : fv = Int32.ofNat f) (hnv : nv = Int32.ofNat n) (hN : cs.length < 1073741824) (hfn : f + n ≤ cs.length) (h1 : 0 < n) (hcap : n ≤ 44) (hne : ¬ (f = 0 ∧ n = cs.length)) (hf : own_fst cs = cs.length)  (q0 : Arv Z h0 b kb .byte z (own_lat cs) (.int (0 : Int32))) :
    MetF l [] Z n0 (⟨"java/lang/StringLatin1", "newString", "([BII)Ljava/lang/String;"⟩ : MethodName) jdk_43_method_47_code 3 (Option.some (FieldType.object "java/lang/String")) ({ frames := 3, cells := 2, slots := 92, locals := 50 } : Room) #[(.ref b), (.int fv), (.int nv)] h0 [] (fun r h' => ∃ w, r = some w ∧ ∃ (r : Nat), ∃ (t : Nat), ∃ (kt : ClassId), ∃ (cd : Int32), ∃ (zz : Int32), ∃ (bs : List Value), w = (.ref r) ∧ (Exa Z h' r "java/lang/String") ∧ (Fld Z h' r "java/lang/String" "value" "[B" (.ref t)) ∧ (Fld Z h' r "java/lang/String" "coder" "B" (.int cd)) ∧ (Arv Z h' t kt .byte zz bs (.int (0 : Int32))) ∧ (h0.size ≤ r) ∧ (h0.size ≤ t) ∧ (own_cod ((cs.drop f).take n) cd zz bs)) := by
  refine metF (plainFor_of_name pn_3) O0 (Ls := #[.val (.ref b), .val (.int fv), .val (.int nv)]) (fun m => by first | rfl | (simp [entryFrame, mkF, argsToLocals, Value.category]; done)) ?_
  intro p e s m below meth c T0 X0
  have K0_h0 := Keep.refl h0 []
  have n0le := X0.n0le
  have ltq0 := own_n q0.lt
  obtain ⟨G_cs, G_zc, G_fm, isref_fm, G_assertionsDisabled, G_HI_BYTE_SHIFT, G_LO_BYTE_SHIFT, GS_em, GE_em, GF_em⟩ := id G
  have oz := X0.old.1
  have ltz0 := own_n GE_em.lt
  have hnz : ¬ nv = 0 := by rw [hnv]; exact own_nz h1 (by omega)
  refine k_iloadN X0 d_jdk_43_47_0 rfl (pc' := 1) rfl ?_
  refine k_ifYes X0 d_jdk_43_47_1 ((if0 _ _).trans (feq hnz).2) (pc' := 7) (by decide) (by decide) ?_
  refine k_newO X0 d_jdk_43_47_7 (w_199 hw) (w_6 hw) (w_7 hw) (by decide) (by decide) (pc' := 10) rfl fun T254 h254 b254 g254 X254 K254 E254 D254 S254 lt254 ge254 => ?_
  have sz_h254 := K254.1
  have K0_h254 : Keep h0 h254 [] := K0_h0.trans K254 all0
  have Fn254_coder : Fld Z h254 b254 "java/lang/String" "coder" "B" (.int (0 : Int32)) := D254 (Or.inr (w_31 hw)) (ty := .byte) (by decide)
  have Fn254_value : Fld Z h254 b254 "java/lang/String" "value" "[B" .null := D254 (Or.inr (w_33 hw)) (ty := (.array .byte)) (by decide)
  refine k_dup X254 d_jdk_43_47_10 rfl (pc' := 11) rfl ?_
  refine k_aloadN X254 d_jdk_43_47_11 rfl rfl (pc' := 12) rfl ?_
  refine k_iloadN X254 d_jdk_43_47_12 rfl (pc' := 13) rfl ?_
  refine k_iloadN X254 d_jdk_43_47_13 rfl (pc' := 14) rfl ?_
  refine k_iloadN X254 d_jdk_43_47_14 rfl (pc' := 15) rfl ?_
  refine k_iadd X254 d_jdk_43_47_15 (w := (Int32.ofNat (f + n))) (by rw [hfv, hnv]; exact (Int32.ofNat_add f n).symm) (pc' := 16) rfl ?_
  have c255 := (q0.keep K254 nin0)
  refine k_callSVF X254 (y := (⟨"java/util/Arrays", "copyOfRange", "([BII)[B"⟩ : MethodName)) d_jdk_43_47_16 (w_200 hw) (w_146 hw) (w_147 hw) (w_148 hw) (by decide) (argsL := [(.ref b), (.int fv), (.int (Int32.ofNat (f + n)))]) (rest := [(.ref b254), (.ref b254)]) (own_cor l Z a0 hw G n0 h254 X254.old b kb z (own_lat cs) (cs.length) f n fv (Int32.ofNat (f + n)) hz (own_latlen cs) hfv rfl hN hfn (by omega) hne c255) rfl pd_15 rfl rfl (by decide) (W := 2) (Nat.le_of_eq rfl) (by decide) (by decide) (by decide) all0 (pc' := 19) rfl ?_
  rintro _ T258 h258 L258 X258 K258 ⟨t_256, kt_257, rfl, q258_0, q258_1⟩
  have sz_h258 := K258.1
  have K0_h258 : Keep h0 h258 [] := K0_h254.trans K258 all0
  have lt258_0 := own_n q258_0.lt
  rw [own_lat_cut] at q258_0
  refine k_iconst X258 d_jdk_43_47_19 (w := (0 : Int32)) rfl (pc' := 20) rfl ?_
  have c260 := (E254.keep K258)
  have c261 := (Fn254_value.keep K258 nin0)
  have c262 := (Fn254_coder.keep K258 nin0)
  have ge263 : n0 ≤ b254 := by omega
  refine k_callPNF X258 (y := (⟨"java/lang/String", "<init>", "([BB)V"⟩ : MethodName)) d_jdk_43_47_20 (w_201 hw) (w_166 hw) (w_7 hw) (w_167 hw) (by decide) rfl rfl (argsL := [(.ref t_256), (.int (0 : Int32))]) (rest := [(.ref b254)]) (own_initBB0 l Z a0 hw G n0 h258 X258.old b254 t_256 (by omega) c260 c261 c262) rfl pd_20 rfl rfl (by decide) (W := 1) (Nat.le_of_eq rfl) (by decide) (by decide) (by decide) (allS ⟨trivial, ge263⟩ all0) (pc' := 23) rfl ?_
  rintro T264 h264 L264 X264 K264 ⟨q264_0, q264_1, q264_2⟩
  have sz_h264 := K264.1
  have K0_h264 : Keep h0 h264 [] := K0_h258.trans K264 (allS (Or.inr (by omega)) all0)
  have lt264_0 := own_n q264_0.lt
  have lt264_1 := own_n q264_1.lt
  have lt264_2 := own_n q264_2.lt
  have hcl : ((cs.drop f).take n).length = n := by rw [List.length_take, List.length_drop]; omega
  have c265 := (q258_0.keep K264 (ninS (own_ne (by omega) : t_256 ≠ b254) nin0))
  exact k_retFA X264 d_jdk_43_47_23 rfl rfl rfl rfl K0_h264 ⟨_, rfl, _, _, _, _, _, _, rfl, q264_0, q264_1, q264_2, c265, by omega, by omega, Or.inl ⟨own_fst_cut hf f n, rfl, by rw [hcl], rfl⟩⟩ (by decide) (by decide)
set_option maxRecDepth 65536 in
set_option maxHeartbeats 40000000 in
theorem own_nsU (l : Launch) (Z : State) (a0 : Array Value) (hw : ∀ d ∈ tables_1, d.before a0 Z = true) {zc : Int32} {fm : Value} {em : Nat}  (G : Gl Z zc fm em) (n0 : Nat) (h0 : Heap) (O0 : Old Z n0 h0) (b : Nat) (kb : ClassId) (nv : Int32) (n : Nat) (cs : List Int32) (hnv : nv = Int32.ofNat n) (h1 : 0 < n) (hn : n < cs.length) (hb0 : cs.length < 536870912) (hcap : n ≤ 44) (hr : own_chs cs)  (q0 : Arv Z h0 b kb .byte (Int32.ofNat (2 * cs.length)) (own_u16 cs) (.int (0 : Int32))) :
    MetF l [] Z n0 (⟨"java/lang/StringUTF16", "newString", "([BII)Ljava/lang/String;"⟩ : MethodName) jdk_52_method_69_code 5 (Option.some (FieldType.object "java/lang/String")) ({ frames := 5, cells := 3, slots := 136, locals := 78 } : Room) #[(.ref b), (.int (0 : Int32)), (.int nv)] h0 [] (fun r h' => ∃ w, r = some w ∧ ∃ (r : Nat), ∃ (t : Nat), ∃ (kt : ClassId), ∃ (cd : Int32), ∃ (zz : Int32), ∃ (bs : List Value), w = (.ref r) ∧ (Exa Z h' r "java/lang/String") ∧ (Fld Z h' r "java/lang/String" "value" "[B" (.ref t)) ∧ (Fld Z h' r "java/lang/String" "coder" "B" (.int cd)) ∧ (Arv Z h' t kt .byte zz bs (.int (0 : Int32))) ∧ (h0.size ≤ r) ∧ (h0.size ≤ t) ∧ (own_cod (cs.take n) cd zz bs)) := by
  refine metF (plainFor_of_name pn_0) O0 (Ls := #[.val (.ref b), .val (.int (0 : Int32)), .val (.int nv), .unset, .unset]) (fun m => by first | rfl | (simp [entryFrame, mkF, argsToLocals, Value.category]; done)) ?_
  intro p e s m below meth c T0 X0
  have K0_h0 := Keep.refl h0 []
  have n0le := X0.n0le
  have ltq0 := own_n q0.lt
  obtain ⟨G_cs, G_zc, G_fm, isref_fm, G_assertionsDisabled, G_HI_BYTE_SHIFT, G_LO_BYTE_SHIFT, GS_em, GE_em, GF_em⟩ := id G
  have oz := X0.old.1
  have ltz0 := own_n GE_em.lt
  have hdl : (cs.take n).length = n := by rw [List.length_take]; omega
  have hfl := own_fst_le (cs.take n)
  have hnz : ¬ nv = 0 := by rw [hnv]; exact own_nz h1 (by omega)
  refine k_iloadN X0 d_jdk_52_69_0 rfl (pc' := 1) rfl ?_
  refine k_ifYes X0 d_jdk_52_69_1 ((if0 _ _).trans (feq hnz).2) (pc' := 8) (by decide) (by decide) ?_
  refine k_getS X0 d_jdk_52_69_8 (host := "") (Or.inl (w_129 hw)) Via.refl (G_cs.ext X0.old.2) (pc' := 11) rfl fun T266 X267 => ?_
  refine k_ifNo X267 d_jdk_52_69_11 ((if0 _ _).trans (feq G_zc).1) (pc' := 14) rfl ?_
  by_cases hc268 : own_fst (cs.take n) = n
  · refine k_aloadN X267 d_jdk_52_69_14 rfl rfl (pc' := 15) rfl ?_
    refine k_iloadN X267 d_jdk_52_69_15 rfl (pc' := 16) rfl ?_
    refine k_iloadN X267 d_jdk_52_69_16 rfl (pc' := 17) rfl ?_
    refine k_callSVF X267 (y := (⟨"java/lang/StringUTF16", "compress", "([BII)[B"⟩ : MethodName)) d_jdk_52_69_17 (w_130 hw) (w_131 hw) (w_21 hw) (w_132 hw) (by decide) (argsL := [(.ref b), (.int (0 : Int32)), (.int nv)]) (rest := []) (own_cmpB3L l Z a0 hw G n0 h0 X267.old b kb nv n cs hnv hn hb0 hcap hr hc268 q0) rfl pd_15 rfl rfl (by decide) (W := 0) (Nat.le_of_eq rfl) (by decide) (by decide) (by decide) all0 (pc' := 20) rfl ?_
    rintro _ T271 h271 L271 X271 K271 ⟨t_269, kt_270, rfl, q271_0, q271_1⟩
    have sz_h271 := K271.1
    have K0_h271 : Keep h0 h271 [] := K0_h0.trans K271 all0
    have lt271_0 := own_n q271_0.lt
    refine k_astoreN X271 d_jdk_52_69_20 rfl (Ls' := #[.val (.ref b), .val (.int (0 : Int32)), .val (.int nv), .val (.ref t_269), .unset]) rfl (pc' := 21) rfl ?_
    refine k_aloadN X271 d_jdk_52_69_21 rfl rfl (pc' := 22) rfl ?_
    refine k_iloadN X271 d_jdk_52_69_22 rfl (pc' := 23) rfl ?_
    refine k_callSVF X271 (y := (⟨"java/lang/StringUTF16", "coderFromArrayLen", "([BI)B"⟩ : MethodName)) d_jdk_52_69_23 (w_163 hw) (w_28 hw) (w_21 hw) (w_29 hw) (by decide) (argsL := [(.ref t_269), (.int nv)]) (rest := []) (own_codL l Z a0 hw G n0 h271 X271.old t_269 kt_270 nv (own_lat (cs.take n)) (.int (0 : Int32)) q271_0) rfl pd_2 rfl rfl (by decide) (W := 0) (Nat.le_of_eq rfl) (by decide) (by decide) (by decide) all0 (pc' := 26) rfl ?_
    rintro _ T273 h273 L273 X273 K273 ⟨rfl, -⟩
    have sz_h273 := K273.1
    have K0_h273 : Keep h0 h273 [] := K0_h271.trans K273 all0
    refine k_istore X273 d_jdk_52_69_26 (Ls' := #[.val (.ref b), .val (.int (0 : Int32)), .val (.int nv), .val (.ref t_269), .val (.int (0 : Int32))]) rfl (pc' := 28) rfl ?_
    refine k_newO X273 d_jdk_52_69_28 (w_164 hw) (w_6 hw) (w_7 hw) (by decide) (by decide) (pc' := 31) rfl fun T275 h275 b275 g275 X275 K275 E275 D275 S275 lt275 ge275 => ?_
    have sz_h275 := K275.1
    have K0_h275 : Keep h0 h275 [] := K0_h273.trans K275 all0
    have Fn275_coder : Fld Z h275 b275 "java/lang/String" "coder" "B" (.int (0 : Int32)) := D275 (Or.inr (w_31 hw)) (ty := .byte) (by decide)
    have Fn275_value : Fld Z h275 b275 "java/lang/String" "value" "[B" .null := D275 (Or.inr (w_33 hw)) (ty := (.array .byte)) (by decide)
    refine k_dup X275 d_jdk_52_69_31 rfl (pc' := 32) rfl ?_
    refine k_aloadN X275 d_jdk_52_69_32 rfl rfl (pc' := 33) rfl ?_
    refine k_iload X275 d_jdk_52_69_33 rfl (pc' := 35) rfl ?_
    have ge276 : n0 ≤ b275 := by omega
    refine k_callPNF X275 (y := (⟨"java/lang/String", "<init>", "([BB)V"⟩ : MethodName)) d_jdk_52_69_35 (w_165 hw) (w_166 hw) (w_7 hw) (w_167 hw) (by decide) rfl rfl (argsL := [(.ref t_269), (.int (0 : Int32))]) (rest := [(.ref b275)]) (own_initBB0 l Z a0 hw G n0 h275 X275.old b275 t_269 (by omega) E275 Fn275_value Fn275_coder) rfl pd_20 rfl rfl (by decide) (W := 1) (Nat.le_of_eq rfl) (by decide) (by decide) (by decide) (allS ⟨trivial, ge276⟩ all0) (pc' := 38) rfl ?_
    rintro T277 h277 L277 X277 K277 ⟨q277_0, q277_1, q277_2⟩
    have sz_h277 := K277.1
    have K0_h277 : Keep h0 h277 [] := K0_h275.trans K277 (allS (Or.inr (by omega)) all0)
    have lt277_0 := own_n q277_0.lt
    have lt277_1 := own_n q277_1.lt
    have lt277_2 := own_n q277_2.lt
    have c278 := (((q271_0.keep K273 nin0).keep K275 nin0).keep K277 (ninS (own_ne (by omega) : t_269 ≠ b275) nin0))
    exact k_retFA X277 d_jdk_52_69_38 rfl rfl rfl rfl K0_h277 ⟨_, rfl, _, _, _, _, _, _, rfl, q277_0, q277_1, q277_2, c278, by omega, by omega, Or.inl ⟨by omega, rfl, by rw [hdl, ← hnv], rfl⟩⟩ (by decide) (by decide)
  · have hlt : own_fst (cs.take n) < n := by omega
    refine k_aloadN X267 d_jdk_52_69_14 rfl rfl (pc' := 15) rfl ?_
    refine k_iloadN X267 d_jdk_52_69_15 rfl (pc' := 16) rfl ?_
    refine k_iloadN X267 d_jdk_52_69_16 rfl (pc' := 17) rfl ?_
    refine k_callSVF X267 (y := (⟨"java/lang/StringUTF16", "compress", "([BII)[B"⟩ : MethodName)) d_jdk_52_69_17 (w_130 hw) (w_131 hw) (w_21 hw) (w_132 hw) (by decide) (argsL := [(.ref b), (.int (0 : Int32)), (.int nv)]) (rest := []) (own_cmpB3U l Z a0 hw G n0 h0 X267.old b kb nv n cs hnv hn hb0 hcap hr hlt q0) rfl pd_15 rfl rfl (by decide) (W := 0) (Nat.le_of_eq rfl) (by decide) (by decide) (by decide) all0 (pc' := 20) rfl ?_
    rintro _ T281 h281 L281 X281 K281 ⟨t_279, kt_280, rfl, q281_0, q281_1⟩
    have sz_h281 := K281.1
    have K0_h281 : Keep h0 h281 [] := K0_h0.trans K281 all0
    have lt281_0 := own_n q281_0.lt
    have V2 : Arv Z h281 t_279 kt_280 .byte (Int32.ofNat (2 * (cs.take n).length)) (own_u16 (cs.take n)) (.int (0 : Int32)) := by rw [hdl]; exact q281_0
    refine k_astoreN X281 d_jdk_52_69_20 rfl (Ls' := #[.val (.ref b), .val (.int (0 : Int32)), .val (.int nv), .val (.ref t_279), .unset]) rfl (pc' := 21) rfl ?_
    refine k_aloadN X281 d_jdk_52_69_21 rfl rfl (pc' := 22) rfl ?_
    refine k_iloadN X281 d_jdk_52_69_22 rfl (pc' := 23) rfl ?_
    refine k_callSVF X281 (y := (⟨"java/lang/StringUTF16", "coderFromArrayLen", "([BI)B"⟩ : MethodName)) d_jdk_52_69_23 (w_163 hw) (w_28 hw) (w_21 hw) (w_29 hw) (by decide) (argsL := [(.ref t_279), (.int nv)]) (rest := []) (own_codU l Z a0 hw G n0 h281 X281.old t_279 kt_280 nv (cs.take n) (own_u16 (cs.take n)) (.int (0 : Int32)) (by rw [hdl]; exact hnv) (by omega) (by omega) V2) rfl pd_2 rfl rfl (by decide) (W := 0) (Nat.le_of_eq rfl) (by decide) (by decide) (by decide) all0 (pc' := 26) rfl ?_
    rintro _ T283 h283 L283 X283 K283 ⟨rfl, -⟩
    have sz_h283 := K283.1
    have K0_h283 : Keep h0 h283 [] := K0_h281.trans K283 all0
    refine k_istore X283 d_jdk_52_69_26 (Ls' := #[.val (.ref b), .val (.int (0 : Int32)), .val (.int nv), .val (.ref t_279), .val (.int (1 : Int32))]) rfl (pc' := 28) rfl ?_
    refine k_newO X283 d_jdk_52_69_28 (w_164 hw) (w_6 hw) (w_7 hw) (by decide) (by decide) (pc' := 31) rfl fun T285 h285 b285 g285 X285 K285 E285 D285 S285 lt285 ge285 => ?_
    have sz_h285 := K285.1
    have K0_h285 : Keep h0 h285 [] := K0_h283.trans K285 all0
    have Fn285_coder : Fld Z h285 b285 "java/lang/String" "coder" "B" (.int (0 : Int32)) := D285 (Or.inr (w_31 hw)) (ty := .byte) (by decide)
    have Fn285_value : Fld Z h285 b285 "java/lang/String" "value" "[B" .null := D285 (Or.inr (w_33 hw)) (ty := (.array .byte)) (by decide)
    refine k_dup X285 d_jdk_52_69_31 rfl (pc' := 32) rfl ?_
    refine k_aloadN X285 d_jdk_52_69_32 rfl rfl (pc' := 33) rfl ?_
    refine k_iload X285 d_jdk_52_69_33 rfl (pc' := 35) rfl ?_
    have ge286 : n0 ≤ b285 := by omega
    refine k_callPNF X285 (y := (⟨"java/lang/String", "<init>", "([BB)V"⟩ : MethodName)) d_jdk_52_69_35 (w_165 hw) (w_166 hw) (w_7 hw) (w_167 hw) (by decide) rfl rfl (argsL := [(.ref t_279), (.int (1 : Int32))]) (rest := [(.ref b285)]) (own_initBB1 l Z a0 hw G n0 h285 X285.old b285 t_279 (by omega) E285 Fn285_value Fn285_coder) rfl pd_20 rfl rfl (by decide) (W := 1) (Nat.le_of_eq rfl) (by decide) (by decide) (by decide) (allS ⟨trivial, ge286⟩ all0) (pc' := 38) rfl ?_
    rintro T287 h287 L287 X287 K287 ⟨q287_0, q287_1, q287_2⟩
    have sz_h287 := K287.1
    have K0_h287 : Keep h0 h287 [] := K0_h285.trans K287 (allS (Or.inr (by omega)) all0)
    have lt287_0 := own_n q287_0.lt
    have lt287_1 := own_n q287_1.lt
    have lt287_2 := own_n q287_2.lt
    have c288 := (((V2.keep K283 nin0).keep K285 nin0).keep K287 (ninS (own_ne (by omega) : t_279 ≠ b285) nin0))
    exact k_retFA X287 d_jdk_52_69_38 rfl rfl rfl rfl K0_h287 ⟨_, rfl, _, _, _, _, _, _, rfl, q287_0, q287_1, q287_2, c288, by omega, by omega, Or.inr ⟨by omega, rfl, rfl, rfl⟩⟩ (by decide) (by decide)
set_option maxRecDepth 65536 in
set_option maxHeartbeats 40000000 in
theorem own_sub2 (l : Launch) (Z : State) (a0 : Array Value) (hw : ∀ d ∈ tables_1, d.before a0 Z = true) {zc : Int32} {fm : Value} {em : Nat}  (G : Gl Z zc fm em) (n0 : Nat) (h0 : Heap) (O0 : Old Z n0 h0) (a : Nat) (t : Nat) (kt : ClassId) (cd : Int32) (zz : Int32) (bs : List Value) (cs : List Int32) (n : Nat) (nv : Int32) (hnv : nv = Int32.ofNat n) (h1 : 0 < n) (hn : n < cs.length) (hb0 : cs.length < 536870912) (hcap : n ≤ 44) (hr : own_chs cs)  (q0 : Exa Z h0 a "java/lang/String") (q1 : Fld Z h0 a "java/lang/String" "value" "[B" (.ref t)) (q2 : Fld Z h0 a "java/lang/String" "coder" "B" (.int cd)) (q3 : Arv Z h0 t kt .byte zz bs (.int (0 : Int32))) (q4 : own_cod cs cd zz bs) :
    MetF l [] Z n0 (⟨"java/lang/String", "substring", "(II)Ljava/lang/String;"⟩ : MethodName) jdk_42_method_92_code 5 (Option.some (FieldType.object "java/lang/String")) ({ frames := 6, cells := 3, slots := 136, locals := 94 } : Room) #[(.ref a), (.int (0 : Int32)), (.int nv)] h0 [] (fun r h' => ∃ w, r = some w ∧ ∃ (r9 : Nat), ∃ (t9 : Nat), ∃ (kt9 : ClassId), ∃ (cd9 : Int32), ∃ (zz9 : Int32), ∃ (bs9 : List Value), w = (.ref r9) ∧ (Exa Z h' r9 "java/lang/String") ∧ (Fld Z h' r9 "java/lang/String" "value" "[B" (.ref t9)) ∧ (Fld Z h' r9 "java/lang/String" "coder" "B" (.int cd9)) ∧ (Arv Z h' t9 kt9 .byte zz9 bs9 (.int (0 : Int32))) ∧ (h0.size ≤ r9) ∧ (h0.size ≤ t9) ∧ (own_cod (cs.take n) cd9 zz9 bs9)) := by
  rcases q4 with ⟨hf, rfl, rfl, rfl⟩ | ⟨hf, rfl, rfl, rfl⟩
  · refine metF (plainFor_of_name pn_1) O0 (Ls := #[.val (.ref a), .val (.int (0 : Int32)), .val (.int nv), .unset, .unset]) (fun m => by first | rfl | (simp [entryFrame, mkF, argsToLocals, Value.category]; done)) ?_
    intro p e s m below meth c T0 X0
    have K0_h0 := Keep.refl h0 []
    have n0le := X0.n0le
    have ltq0 := own_n q0.lt
    have ltq1 := own_n q1.lt
    have ltq2 := own_n q2.lt
    have ltq3 := own_n q3.lt
    obtain ⟨G_cs, G_zc, G_fm, isref_fm, G_assertionsDisabled, G_HI_BYTE_SHIFT, G_LO_BYTE_SHIFT, GS_em, GE_em, GF_em⟩ := id G
    have oz := X0.old.1
    have ltz0 := own_n GE_em.lt
    have hlen : own_cod cs (0 : Int32) (Int32.ofNat cs.length) (own_lat cs) := Or.inl ⟨hf, rfl, rfl, rfl⟩
    have hnz : ¬ nv < 0 := by rw [hnv]; exact own_nn (by omega)
    refine k_aloadN X0 d_jdk_42_92_0 rfl rfl (pc' := 1) rfl ?_
    refine k_callVVF X0 (y := (⟨"java/lang/String", "length", "()I"⟩ : MethodName)) d_jdk_42_92_1 (w_119 hw) (w_39 hw) (w_41 hw) (w_40 hw) (w_7 hw) (w_42 hw) (by decide) (notFace_of_selects (args := #[]) (mvT X0.hZ (w_41 hw))) q0 (argsL := []) (rest := []) (own_len l Z a0 hw G n0 h0 X0.old a t kt (0 : Int32) (Int32.ofNat cs.length) (own_lat cs) cs (by omega) q0 q1 q2 q3 hlen) rfl pd_21 rfl rfl (by decide) (W := 0) (Nat.le_of_eq rfl) (by decide) (by decide) (by decide) all0 (pc' := 4) rfl ?_
    rintro _ T289 h289 L289 X289 K289 ⟨rfl, -⟩
    have sz_h289 := K289.1
    have K0_h289 : Keep h0 h289 [] := K0_h0.trans K289 all0
    refine k_istoreN X289 d_jdk_42_92_4 (Ls' := #[.val (.ref a), .val (.int (0 : Int32)), .val (.int nv), .val (.int (Int32.ofNat cs.length)), .unset]) rfl (pc' := 5) rfl ?_
    refine k_iloadN X289 d_jdk_42_92_5 rfl (pc' := 6) rfl ?_
    refine k_iloadN X289 d_jdk_42_92_6 rfl (pc' := 7) rfl ?_
    refine k_iloadN X289 d_jdk_42_92_7 rfl (pc' := 8) rfl ?_
    refine k_callSNF X289 (y := (⟨"java/lang/String", "checkBoundsBeginEnd", "(III)V"⟩ : MethodName)) d_jdk_42_92_8 (w_120 hw) (w_121 hw) (w_7 hw) (w_122 hw) (by decide) (argsL := [(.int (0 : Int32)), (.int nv), (.int (Int32.ofNat cs.length))]) (rest := []) (own_cbe l Z a0 hw G n0 h289 X289.old (0 : Int32) nv (Int32.ofNat cs.length) (by decide) hnz (by rw [hnv]; exact own_nlt (by omega) (by omega)) ) rfl pd_22 rfl rfl (by decide) (W := 0) (Nat.le_of_eq rfl) (by decide) (by decide) (by decide) all0 (pc' := 11) rfl ?_
    rintro T291 h291 L291 X291 K291 -
    have sz_h291 := K291.1
    have K0_h291 : Keep h0 h291 [] := K0_h289.trans K291 all0
    refine k_iloadN X291 d_jdk_42_92_11 rfl (pc' := 12) rfl ?_
    refine k_ifNo X291 d_jdk_42_92_12 (by decide) (pc' := 15) rfl ?_
    refine k_iloadN X291 d_jdk_42_92_15 rfl (pc' := 16) rfl ?_
    refine k_iloadN X291 d_jdk_42_92_16 rfl (pc' := 17) rfl ?_
    have hne : ¬ nv = Int32.ofNat cs.length := by rw [hnv]; intro q; have := own_inj (by omega) (by omega) q; omega
    refine k_icmpYes X291 d_jdk_42_92_17 (feq hne).2 (pc' := 22) (by decide) (by decide) ?_
    refine k_iloadN X291 d_jdk_42_92_22 rfl (pc' := 23) rfl ?_
    refine k_iloadN X291 d_jdk_42_92_23 rfl (pc' := 24) rfl ?_
    refine k_isub X291 d_jdk_42_92_24 (w := nv) (by simp) (pc' := 25) rfl ?_
    refine k_istore X291 d_jdk_42_92_25 (Ls' := #[.val (.ref a), .val (.int (0 : Int32)), .val (.int nv), .val (.int (Int32.ofNat cs.length)), .val (.int nv)]) rfl (pc' := 27) rfl ?_
    refine k_aloadN X291 d_jdk_42_92_27 rfl rfl (pc' := 28) rfl ?_
    have c292 := ((q2.keep K289 nin0).keep K291 nin0)
    have c293 := ((q0.keep K289).keep K291)
    refine k_callVVF X291 (y := (⟨"java/lang/String", "isLatin1", "()Z"⟩ : MethodName)) d_jdk_42_92_28 (w_53 hw) (w_54 hw) (w_56 hw) (w_55 hw) (w_7 hw) (w_57 hw) (by decide) (notFace_of_selects (args := #[]) (mvT X291.hZ (w_56 hw))) c293 (argsL := []) (rest := []) (own_isLat0 l Z a0 hw G n0 h291 X291.old a c292) rfl pd_13 rfl rfl (by decide) (W := 0) (Nat.le_of_eq rfl) (by decide) (by decide) (by decide) all0 (pc' := 31) rfl ?_
    rintro _ T294 h294 L294 X294 K294 ⟨rfl, -⟩
    have sz_h294 := K294.1
    have K0_h294 : Keep h0 h294 [] := K0_h291.trans K294 all0
    refine k_ifNo X294 d_jdk_42_92_31 (by decide) (pc' := 34) rfl ?_
    refine k_aloadN X294 d_jdk_42_92_34 rfl rfl (pc' := 35) rfl ?_
    have c296 := (((q1.keep K289 nin0).keep K291 nin0).keep K294 nin0)
    refine k_getF X294 d_jdk_42_92_35 (host := "") (Or.inl (w_32 hw)) Via.refl c296 (pc' := 38) rfl fun T297 X298 => ?_
    refine k_iloadN X298 d_jdk_42_92_38 rfl (pc' := 39) rfl ?_
    refine k_iload X298 d_jdk_42_92_39 rfl (pc' := 41) rfl ?_
    have c299 := (((q3.keep K289 nin0).keep K291 nin0).keep K294 nin0)
    refine k_callSVF X298 (y := (⟨"java/lang/StringLatin1", "newString", "([BII)Ljava/lang/String;"⟩ : MethodName)) d_jdk_42_92_41 (w_196 hw) (w_197 hw) (w_60 hw) (w_198 hw) (by decide) (argsL := [(.ref t), (.int (0 : Int32)), (.int nv)]) (rest := []) (own_nsL l Z a0 hw G n0 h294 X298.old t kt (Int32.ofNat cs.length) cs 0 n (0 : Int32) nv rfl rfl hnv (by omega) (by omega) h1 hcap (by omega) hf c299) rfl pd_23 rfl rfl (by decide) (W := 0) (Nat.le_of_eq rfl) (by decide) (by decide) (by decide) all0 (pc' := 44) rfl ?_
    rintro _ T306 h306 L306 X306 K306 ⟨r_300, t_301, kt_302, cd_303, zz_304, bs_305, rfl, q306_0, q306_1, q306_2, q306_3, q306_4, q306_5, q306_6⟩
    have sz_h306 := K306.1
    have K0_h306 : Keep h0 h306 [] := K0_h294.trans K306 all0
    have lt306_0 := own_n q306_0.lt
    have lt306_1 := own_n q306_1.lt
    have lt306_2 := own_n q306_2.lt
    have lt306_3 := own_n q306_3.lt
    refine k_goto X306 d_jdk_42_92_44 (pc' := 57) (by decide) (by decide) ?_
    exact k_retFA X306 d_jdk_42_92_57 rfl rfl rfl rfl K0_h306 ⟨_, rfl, _, _, _, _, _, _, rfl, q306_0, q306_1, q306_2, q306_3, by omega, by omega, by simpa using q306_6⟩ (by decide) (by decide)
  · refine metF (plainFor_of_name pn_1) O0 (Ls := #[.val (.ref a), .val (.int (0 : Int32)), .val (.int nv), .unset, .unset]) (fun m => by first | rfl | (simp [entryFrame, mkF, argsToLocals, Value.category]; done)) ?_
    intro p e s m below meth c T0 X0
    have K0_h0 := Keep.refl h0 []
    have n0le := X0.n0le
    have ltq0 := own_n q0.lt
    have ltq1 := own_n q1.lt
    have ltq2 := own_n q2.lt
    have ltq3 := own_n q3.lt
    obtain ⟨G_cs, G_zc, G_fm, isref_fm, G_assertionsDisabled, G_HI_BYTE_SHIFT, G_LO_BYTE_SHIFT, GS_em, GE_em, GF_em⟩ := id G
    have oz := X0.old.1
    have ltz0 := own_n GE_em.lt
    have hlen : own_cod cs (1 : Int32) (Int32.ofNat (2 * cs.length)) (own_u16 cs) := Or.inr ⟨hf, rfl, rfl, rfl⟩
    have hnz : ¬ nv < 0 := by rw [hnv]; exact own_nn (by omega)
    refine k_aloadN X0 d_jdk_42_92_0 rfl rfl (pc' := 1) rfl ?_
    refine k_callVVF X0 (y := (⟨"java/lang/String", "length", "()I"⟩ : MethodName)) d_jdk_42_92_1 (w_119 hw) (w_39 hw) (w_41 hw) (w_40 hw) (w_7 hw) (w_42 hw) (by decide) (notFace_of_selects (args := #[]) (mvT X0.hZ (w_41 hw))) q0 (argsL := []) (rest := []) (own_len l Z a0 hw G n0 h0 X0.old a t kt (1 : Int32) (Int32.ofNat (2 * cs.length)) (own_u16 cs) cs (by omega) q0 q1 q2 q3 hlen) rfl pd_21 rfl rfl (by decide) (W := 0) (Nat.le_of_eq rfl) (by decide) (by decide) (by decide) all0 (pc' := 4) rfl ?_
    rintro _ T308 h308 L308 X308 K308 ⟨rfl, -⟩
    have sz_h308 := K308.1
    have K0_h308 : Keep h0 h308 [] := K0_h0.trans K308 all0
    refine k_istoreN X308 d_jdk_42_92_4 (Ls' := #[.val (.ref a), .val (.int (0 : Int32)), .val (.int nv), .val (.int (Int32.ofNat cs.length)), .unset]) rfl (pc' := 5) rfl ?_
    refine k_iloadN X308 d_jdk_42_92_5 rfl (pc' := 6) rfl ?_
    refine k_iloadN X308 d_jdk_42_92_6 rfl (pc' := 7) rfl ?_
    refine k_iloadN X308 d_jdk_42_92_7 rfl (pc' := 8) rfl ?_
    refine k_callSNF X308 (y := (⟨"java/lang/String", "checkBoundsBeginEnd", "(III)V"⟩ : MethodName)) d_jdk_42_92_8 (w_120 hw) (w_121 hw) (w_7 hw) (w_122 hw) (by decide) (argsL := [(.int (0 : Int32)), (.int nv), (.int (Int32.ofNat cs.length))]) (rest := []) (own_cbe l Z a0 hw G n0 h308 X308.old (0 : Int32) nv (Int32.ofNat cs.length) (by decide) hnz (by rw [hnv]; exact own_nlt (by omega) (by omega)) ) rfl pd_22 rfl rfl (by decide) (W := 0) (Nat.le_of_eq rfl) (by decide) (by decide) (by decide) all0 (pc' := 11) rfl ?_
    rintro T310 h310 L310 X310 K310 -
    have sz_h310 := K310.1
    have K0_h310 : Keep h0 h310 [] := K0_h308.trans K310 all0
    refine k_iloadN X310 d_jdk_42_92_11 rfl (pc' := 12) rfl ?_
    refine k_ifNo X310 d_jdk_42_92_12 (by decide) (pc' := 15) rfl ?_
    refine k_iloadN X310 d_jdk_42_92_15 rfl (pc' := 16) rfl ?_
    refine k_iloadN X310 d_jdk_42_92_16 rfl (pc' := 17) rfl ?_
    have hne : ¬ nv = Int32.ofNat cs.length := by rw [hnv]; intro q; have := own_inj (by omega) (by omega) q; omega
    refine k_icmpYes X310 d_jdk_42_92_17 (feq hne).2 (pc' := 22) (by decide) (by decide) ?_
    refine k_iloadN X310 d_jdk_42_92_22 rfl (pc' := 23) rfl ?_
    refine k_iloadN X310 d_jdk_42_92_23 rfl (pc' := 24) rfl ?_
    refine k_isub X310 d_jdk_42_92_24 (w := nv) (by simp) (pc' := 25) rfl ?_
    refine k_istore X310 d_jdk_42_92_25 (Ls' := #[.val (.ref a), .val (.int (0 : Int32)), .val (.int nv), .val (.int (Int32.ofNat cs.length)), .val (.int nv)]) rfl (pc' := 27) rfl ?_
    refine k_aloadN X310 d_jdk_42_92_27 rfl rfl (pc' := 28) rfl ?_
    have c311 := ((q2.keep K308 nin0).keep K310 nin0)
    have c312 := ((q0.keep K308).keep K310)
    refine k_callVVF X310 (y := (⟨"java/lang/String", "isLatin1", "()Z"⟩ : MethodName)) d_jdk_42_92_28 (w_53 hw) (w_54 hw) (w_56 hw) (w_55 hw) (w_7 hw) (w_57 hw) (by decide) (notFace_of_selects (args := #[]) (mvT X310.hZ (w_56 hw))) c312 (argsL := []) (rest := []) (own_isLat1 l Z a0 hw G n0 h310 X310.old a c311) rfl pd_13 rfl rfl (by decide) (W := 0) (Nat.le_of_eq rfl) (by decide) (by decide) (by decide) all0 (pc' := 31) rfl ?_
    rintro _ T313 h313 L313 X313 K313 ⟨rfl, -⟩
    have sz_h313 := K313.1
    have K0_h313 : Keep h0 h313 [] := K0_h310.trans K313 all0
    refine k_ifYes X313 d_jdk_42_92_31 (by decide) (pc' := 47) (by decide) (by decide) ?_
    refine k_aloadN X313 d_jdk_42_92_47 rfl rfl (pc' := 48) rfl ?_
    have c315 := (((q1.keep K308 nin0).keep K310 nin0).keep K313 nin0)
    refine k_getF X313 d_jdk_42_92_48 (host := "") (Or.inl (w_32 hw)) Via.refl c315 (pc' := 51) rfl fun T316 X317 => ?_
    refine k_iloadN X317 d_jdk_42_92_51 rfl (pc' := 52) rfl ?_
    refine k_iload X317 d_jdk_42_92_52 rfl (pc' := 54) rfl ?_
    have c318 := (((q3.keep K308 nin0).keep K310 nin0).keep K313 nin0)
    refine k_callSVF X317 (y := (⟨"java/lang/StringUTF16", "newString", "([BII)Ljava/lang/String;"⟩ : MethodName)) d_jdk_42_92_54 (w_126 hw) (w_127 hw) (w_21 hw) (w_128 hw) (by decide) (argsL := [(.ref t), (.int (0 : Int32)), (.int nv)]) (rest := []) (own_nsU l Z a0 hw G n0 h313 X317.old t kt nv n cs hnv h1 hn hb0 hcap hr c318) rfl pd_23 rfl rfl (by decide) (W := 0) (Nat.le_of_eq rfl) (by decide) (by decide) (by decide) all0 (pc' := 57) rfl ?_
    rintro _ T325 h325 L325 X325 K325 ⟨r_319, t_320, kt_321, cd_322, zz_323, bs_324, rfl, q325_0, q325_1, q325_2, q325_3, q325_4, q325_5, q325_6⟩
    have sz_h325 := K325.1
    have K0_h325 : Keep h0 h325 [] := K0_h313.trans K325 all0
    have lt325_0 := own_n q325_0.lt
    have lt325_1 := own_n q325_1.lt
    have lt325_2 := own_n q325_2.lt
    have lt325_3 := own_n q325_3.lt
    exact k_retFA X325 d_jdk_42_92_57 rfl rfl rfl rfl K0_h325 ⟨_, rfl, _, _, _, _, _, _, rfl, q325_0, q325_1, q325_2, q325_3, by omega, by omega, q325_6⟩ (by decide) (by decide)
set_option maxRecDepth 65536 in
set_option maxHeartbeats 40000000 in
theorem own_beq (l : Launch) (Z : State) (a0 : Array Value) (hw : ∀ d ∈ tables_1, d.before a0 Z = true) {zc : Int32} {fm : Value} {em : Nat}  (G : Gl Z zc fm em) (n0 : Nat) (h0 : Heap) (O0 : Old Z n0 h0) (d : Nat) (g : Nat) (kd : ClassId) (kg : ClassId) (zd : Int32) (zg : Int32) (is : List Int32) (js : List Int32) (hzd : zd = Int32.ofNat is.length) (hzg : zg = Int32.ofNat js.length) (hn1 : is.length < 2147483648) (hn2 : js.length < 2147483648)  (q0 : Arv Z h0 d kd .byte zd (is.map Value.int) (.int (0 : Int32))) (q1 : Arv Z h0 g kg .byte zg (js.map Value.int) (.int (0 : Int32))) :
    MetF l [] Z n0 (⟨"java/lang/StringLatin1", "equals", "([B[B)Z"⟩ : MethodName) jdk_43_method_13_code 3 (Option.some FieldType.boolean) ({ frames := 0, cells := 0, slots := 0, locals := 0 } : Room) #[(.ref d), (.ref g)] h0 [] (fun r h' => ∃ w, r = some w ∧ w = (.int (own_eqv is js)) ∧ True) := by
  refine metF (plainFor_of_name pn_3) O0 (Ls := #[.val (.ref d), .val (.ref g), .unset]) (fun m => by first | rfl | (simp [entryFrame, mkF, argsToLocals, Value.category]; done)) ?_
  intro p e s m below meth c T0 X0
  have K0_h0 := Keep.refl h0 []
  have n0le := X0.n0le
  have ltq0 := own_n q0.lt
  have ltq1 := own_n q1.lt
  obtain ⟨G_cs, G_zc, G_fm, isref_fm, G_assertionsDisabled, G_HI_BYTE_SHIFT, G_LO_BYTE_SHIFT, GS_em, GE_em, GF_em⟩ := id G
  have oz := X0.old.1
  have ltz0 := own_n GE_em.lt
  have loop : ∀ (n i : Nat) (T : State) (L : List Loc), n = is.length - i → i ≤ is.length → is.length = js.length → (∀ j, j < i → is.getD j 0 = js.getD j 0) → WP p l e ({ frames := 0, cells := 0, slots := 0, locals := 0 } : Room) s m #[(.ref d), (.ref g)] below meth c Z "java/lang/StringLatin1" "equals" jdk_43_method_13_code 3 (Option.some FieldType.boolean) n0 (fun _ => True) (fun _ _ => True) T h0 L 0 0 → Run p.tables e below (PF s below n0 h0 [] (fun r h' => ∃ w, r = some w ∧ w = (.int (own_eqv is js)) ∧ True) ({ frames := 0, cells := 0, slots := 0, locals := 0 } : Room).cells ({ frames := 0, cells := 0, slots := 0, locals := 0 } : Room).slots) T (mkF m 9 #[.val (.ref d), .val (.ref g), .val (.int (Int32.ofNat i))] []) := by
    intro n
    induction n with
    | zero =>
      intro i T L hni hij hll hal X
      have hi : i = is.length := by omega
      subst hi
      have hnl : ¬ (Int32.ofNat is.length < zd) := by rw [← hzd]; exact Int32.lt_irrefl
      have he : own_eqv is js = 1 := if_pos (own_ext is js hll hal)
      refine k_iloadN X d_jdk_43_13_9 rfl (pc' := 10) rfl ?_
      refine k_aloadN X d_jdk_43_13_10 rfl rfl (pc' := 11) rfl ?_
      refine k_arlen X d_jdk_43_13_11 q0 (pc' := 12) rfl ?_
      refine k_icmpYes X d_jdk_43_13_12 (flt hnl).2.1 (pc' := 32) (by decide) (by decide) ?_
      refine k_iconst X d_jdk_43_13_32 (w := (1 : Int32)) rfl (pc' := 33) rfl ?_
      exact k_retFN X (w := (1 : Int32)) d_jdk_43_13_33 (t := .boolean) rfl (by simp) rfl K0_h0 ⟨_, rfl, by rw [he], trivial⟩ (by decide) (by decide)
    | succ n ih =>
      intro i T L hni hij hll hal X
      have hi : i < is.length := by omega
      have hlt := own_lt hi hn1
      rw [← hzd] at hlt
      have hlt2 := own_lt (show i < js.length by omega) hn2
      rw [← hzg] at hlt2
      refine k_iloadN X d_jdk_43_13_9 rfl (pc' := 10) rfl ?_
      refine k_aloadN X d_jdk_43_13_10 rfl rfl (pc' := 11) rfl ?_
      refine k_arlen X d_jdk_43_13_11 q0 (pc' := 12) rfl ?_
      refine k_icmpNo X d_jdk_43_13_12 (tlt hlt).2.1 (pc' := 15) rfl ?_
      refine k_aloadN X d_jdk_43_13_15 rfl rfl (pc' := 16) rfl ?_
      refine k_iloadN X d_jdk_43_13_16 rfl (pc' := 17) rfl ?_
      refine k_baload X d_jdk_43_13_17 q0 (own_nn (by omega)) hlt (v := (.int (is.getD i 0))) (own_getc' is (by omega)) (pc' := 18) rfl ?_
      refine k_aloadN X d_jdk_43_13_18 rfl rfl (pc' := 19) rfl ?_
      refine k_iloadN X d_jdk_43_13_19 rfl (pc' := 20) rfl ?_
      refine k_baload X d_jdk_43_13_20 q1 (own_nn (by omega)) hlt2 (v := (.int (js.getD i 0))) (own_getc' js (by omega)) (pc' := 21) rfl ?_
      by_cases hc327 : is.getD i 0 = js.getD i 0
      · refine k_icmpYes X d_jdk_43_13_21 (teq hc327).1 (pc' := 26) (by decide) (by decide) ?_
        refine k_iinc X d_jdk_43_13_26 rfl (w := (Int32.ofNat (i + 1))) (own_succ i) (Ls' := #[.val (.ref d), .val (.ref g), .val (.int (Int32.ofNat (i + 1)))]) rfl (pc' := 29) rfl ?_
        refine k_goto X d_jdk_43_13_29 (pc' := 9) (by decide) (by decide) ?_
        exact ih (i + 1) _ _ (by omega) (by omega) hll (fun j hj => by rcases Nat.lt_succ_iff_lt_or_eq.mp hj with q | q; exact hal j q; subst q; exact hc327) X
      · have he : own_eqv is js = 0 := if_neg fun q => hc327 (by rw [q])
        refine k_icmpNo X d_jdk_43_13_21 (feq hc327).1 (pc' := 24) rfl ?_
        refine k_iconst X d_jdk_43_13_24 (w := (0 : Int32)) rfl (pc' := 25) rfl ?_
        exact k_retFN X (w := (0 : Int32)) d_jdk_43_13_25 (t := .boolean) rfl (by simp) rfl K0_h0 ⟨_, rfl, by rw [he], trivial⟩ (by decide) (by decide)
  refine k_aloadN X0 d_jdk_43_13_0 rfl rfl (pc' := 1) rfl ?_
  refine k_arlen X0 d_jdk_43_13_1 q0 (pc' := 2) rfl ?_
  refine k_aloadN X0 d_jdk_43_13_2 rfl rfl (pc' := 3) rfl ?_
  refine k_arlen X0 d_jdk_43_13_3 q1 (pc' := 4) rfl ?_
  by_cases hc328 : is.length = js.length
  · have hz : zd = zg := by rw [hzd, hzg, hc328]
    refine k_icmpNo X0 d_jdk_43_13_4 (teq hz).2 (pc' := 7) rfl ?_
    refine k_iconst X0 d_jdk_43_13_7 (w := (0 : Int32)) rfl (pc' := 8) rfl ?_
    refine k_istoreN X0 d_jdk_43_13_8 (Ls' := #[.val (.ref d), .val (.ref g), .val (.int (0 : Int32))]) rfl (pc' := 9) rfl ?_
    exact loop _ 0 _ _ rfl (by omega) hc328 (fun j hj => by omega) X0
  · have hz : ¬ (zd = zg) := fun q => hc328 (by have := congrArg Int32.toNatClampNeg (hzd.symm.trans (q.trans hzg)); rwa [own_clamp hn1, own_clamp hn2] at this)
    have he : own_eqv is js = 0 := if_neg fun q => hc328 (by rw [q])
    refine k_icmpYes X0 d_jdk_43_13_4 (feq hz).2 (pc' := 34) (by decide) (by decide) ?_
    refine k_iconst X0 d_jdk_43_13_34 (w := (0 : Int32)) rfl (pc' := 35) rfl ?_
    exact k_retFN X0 (w := (0 : Int32)) d_jdk_43_13_35 (t := .boolean) rfl (by simp) rfl K0_h0 ⟨_, rfl, by rw [he], trivial⟩ (by decide) (by decide)
set_option maxRecDepth 65536 in
set_option maxHeartbeats 40000000 in
theorem own_eq (l : Launch) (Z : State) (a0 : Array Value) (hw : ∀ d ∈ tables_1, d.before a0 Z = true) {zc : Int32} {fm : Value} {em : Nat}  (G : Gl Z zc fm em) (n0 : Nat) (h0 : Heap) (O0 : Old Z n0 h0) (a : Nat) (b : Nat) (t : Nat) (kt : ClassId) (cd : Int32) (zz : Int32) (bs : List Value) (cs : List Int32) (t2 : Nat) (kt2 : ClassId) (cd2 : Int32) (zz2 : Int32) (bs2 : List Value) (cs2 : List Int32) (hn : cs.length < 536870912) (hn2 : cs2.length < 536870912) (hr : own_chs cs) (hr2 : own_chs cs2)  (q0 : Exa Z h0 a "java/lang/String") (q1 : Fld Z h0 a "java/lang/String" "value" "[B" (.ref t)) (q2 : Fld Z h0 a "java/lang/String" "coder" "B" (.int cd)) (q3 : Arv Z h0 t kt .byte zz bs (.int (0 : Int32))) (q4 : own_cod cs cd zz bs) (q5 : Exa Z h0 b "java/lang/String") (q6 : Fld Z h0 b "java/lang/String" "value" "[B" (.ref t2)) (q7 : Fld Z h0 b "java/lang/String" "coder" "B" (.int cd2)) (q8 : Arv Z h0 t2 kt2 .byte zz2 bs2 (.int (0 : Int32))) (q9 : own_cod cs2 cd2 zz2 bs2) :
    MetF l [] Z n0 (⟨"java/lang/String", "equals", "(Ljava/lang/Object;)Z"⟩ : MethodName) jdk_42_method_66_code 3 (Option.some FieldType.boolean) ({ frames := 1, cells := 0, slots := 0, locals := 14 } : Room) #[(.ref a), (.ref b)] h0 [] (fun r h' => ∃ w, r = some w ∧ w = (.int (own_eqv cs cs2)) ∧ True) := by
  refine metF (plainFor_of_name pn_1) O0 (Ls := #[.val (.ref a), .val (.ref b), .unset]) (fun m => by first | rfl | (simp [entryFrame, mkF, argsToLocals, Value.category]; done)) ?_
  intro p e s m below meth c T0 X0
  have K0_h0 := Keep.refl h0 []
  have n0le := X0.n0le
  have ltq0 := own_n q0.lt
  have ltq1 := own_n q1.lt
  have ltq2 := own_n q2.lt
  have ltq3 := own_n q3.lt
  have ltq5 := own_n q5.lt
  have ltq6 := own_n q6.lt
  have ltq7 := own_n q7.lt
  have ltq8 := own_n q8.lt
  obtain ⟨G_cs, G_zc, G_fm, isref_fm, G_assertionsDisabled, G_HI_BYTE_SHIFT, G_LO_BYTE_SHIFT, GS_em, GE_em, GF_em⟩ := id G
  have oz := X0.old.1
  have ltz0 := own_n GE_em.lt
  obtain ⟨is, ei, ezi, eli⟩ := own_cod_ints q4
  obtain ⟨js, ej, ezj, elj⟩ := own_cod_ints q9
  by_cases hc329 : a = b
  · subst hc329
    have ht : t = t2 := by rcases Nat.decEq t t2 with q | q; exact absurd rfl (Fld.ne q1 q6 fun r => q (Value.ref.inj r)); exact q
    subst ht
    have hc : cd = cd2 := by rcases (inferInstance : Decidable (cd = cd2)) with q | q; exact absurd rfl (Fld.ne q2 q7 fun r => q (Value.int.inj r)); exact q
    subst hc
    have he := own_same_txt q3 q8 q4 q9 hr hr2 hn hn2
    refine k_aloadN X0 d_jdk_42_66_0 rfl rfl (pc' := 1) rfl ?_
    refine k_aloadN X0 d_jdk_42_66_1 rfl rfl (pc' := 2) rfl ?_
    refine k_acmp X0 true d_jdk_42_66_2 rfl rfl (decide_eq_true rfl) (by decide) (pc' := 5) (by decide) ?_
    refine k_iconst X0 d_jdk_42_66_5 (w := (1 : Int32)) rfl (pc' := 6) rfl ?_
    exact k_retFN X0 (w := (1 : Int32)) d_jdk_42_66_6 (t := .boolean) rfl (by simp) rfl K0_h0 ⟨_, rfl, by rw [he], trivial⟩ (by decide) (by decide)
  · refine k_aloadN X0 d_jdk_42_66_0 rfl rfl (pc' := 1) rfl ?_
    refine k_aloadN X0 d_jdk_42_66_1 rfl rfl (pc' := 2) rfl ?_
    refine k_acmp X0 false d_jdk_42_66_2 rfl rfl (decide_eq_false fun q => hc329 (Value.ref.inj q)) (by decide) (pc' := 7) (by decide) ?_
    refine k_aloadN X0 d_jdk_42_66_7 rfl rfl (pc' := 8) rfl ?_
    refine k_instY X0 d_jdk_42_66_8 (w_192 hw) (Ins.self q5) (pc' := 11) rfl fun T330 X331 => ?_
    refine k_ifNo X331 d_jdk_42_66_11 (by decide) (pc' := 14) rfl ?_
    refine k_aloadN X331 d_jdk_42_66_14 rfl rfl (pc' := 15) rfl ?_
    refine k_castY X331 d_jdk_42_66_15 (w_192 hw) (Ins.self q5) (pc' := 18) rfl fun T332 X333 => ?_
    refine k_astoreN X333 d_jdk_42_66_18 rfl (Ls' := #[.val (.ref a), .val (.ref b), .val (.ref b)]) rfl (pc' := 19) rfl ?_
    refine k_getS X333 d_jdk_42_66_19 (host := "") (Or.inl (w_18 hw)) Via.refl (G_cs.ext X333.old.2) (pc' := 22) rfl fun T334 X335 => ?_
    refine k_ifNo X335 d_jdk_42_66_22 ((if0 _ _).trans (feq G_zc).1) (pc' := 25) rfl ?_
    refine k_aloadN X335 d_jdk_42_66_25 rfl rfl (pc' := 26) rfl ?_
    refine k_getF X335 d_jdk_42_66_26 (host := "") (Or.inl (w_30 hw)) Via.refl q2 (pc' := 29) rfl fun T336 X337 => ?_
    refine k_aloadN X337 d_jdk_42_66_29 rfl rfl (pc' := 30) rfl ?_
    refine k_getF X337 d_jdk_42_66_30 (host := "") (Or.inl (w_30 hw)) Via.refl q7 (pc' := 33) rfl fun T338 X339 => ?_
    by_cases hc340 : cd = cd2
    · subst hc340
      have he := own_cod_eq q4 q9 hr hr2 ei ej
      subst ei ej
      refine k_icmpNo X339 d_jdk_42_66_33 (teq rfl).2 (pc' := 36) rfl ?_
      refine k_aloadN X339 d_jdk_42_66_36 rfl rfl (pc' := 37) rfl ?_
      refine k_getF X339 d_jdk_42_66_37 (host := "") (Or.inl (w_32 hw)) Via.refl q1 (pc' := 40) rfl fun T341 X342 => ?_
      refine k_aloadN X342 d_jdk_42_66_40 rfl rfl (pc' := 41) rfl ?_
      refine k_getF X342 d_jdk_42_66_41 (host := "") (Or.inl (w_32 hw)) Via.refl q6 (pc' := 44) rfl fun T343 X344 => ?_
      refine k_callSVF X344 (y := (⟨"java/lang/StringLatin1", "equals", "([B[B)Z"⟩ : MethodName)) d_jdk_42_66_44 (w_193 hw) (w_194 hw) (w_60 hw) (w_195 hw) (by decide) (argsL := [(.ref t), (.ref t2)]) (rest := []) (own_beq l Z a0 hw G n0 h0 X344.old t t2 kt kt2 zz zz2 is js ezi ezj (by omega) (by omega) q3 q8) rfl pd_24 rfl rfl (by decide) (W := 0) (Nat.le_of_eq rfl) (by decide) (by decide) (by decide) all0 (pc' := 47) rfl ?_
      rintro _ T345 h345 L345 X345 K345 ⟨rfl, -⟩
      have sz_h345 := K345.1
      have K0_h345 : Keep h0 h345 [] := K0_h0.trans K345 all0
      by_cases hc347 : own_eqv is js = (0 : Int32)
      · refine k_ifYes X345 d_jdk_42_66_47 ((if0 _ _).trans (teq hc347).1) (pc' := 54) (by decide) (by decide) ?_
        refine k_iconst X345 d_jdk_42_66_54 (w := (0 : Int32)) rfl (pc' := 55) rfl ?_
        exact k_retFN X345 (w := (0 : Int32)) d_jdk_42_66_55 (t := .boolean) rfl (by simp) rfl K0_h345 ⟨_, rfl, by rw [← he, hc347], trivial⟩ (by decide) (by decide)
      · have h1 : own_eqv is js = 1 := by rcases own_eqv01 is js with q | q; exact absurd q hc347; exact q
        refine k_ifNo X345 d_jdk_42_66_47 ((if0 _ _).trans (feq hc347).1) (pc' := 50) rfl ?_
        refine k_iconst X345 d_jdk_42_66_50 (w := (1 : Int32)) rfl (pc' := 51) rfl ?_
        refine k_goto X345 d_jdk_42_66_51 (pc' := 55) (by decide) (by decide) ?_
        exact k_retFN X345 (w := (1 : Int32)) d_jdk_42_66_55 (t := .boolean) rfl (by simp) rfl K0_h345 ⟨_, rfl, by rw [← he, h1], trivial⟩ (by decide) (by decide)
    · have he := own_cod_ne q4 q9 hc340
      refine k_icmpYes X339 d_jdk_42_66_33 (feq hc340).2 (pc' := 54) (by decide) (by decide) ?_
      refine k_iconst X339 d_jdk_42_66_54 (w := (0 : Int32)) rfl (pc' := 55) rfl ?_
      exact k_retFN X339 (w := (0 : Int32)) d_jdk_42_66_55 (t := .boolean) rfl (by simp) rfl K0_h0 ⟨_, rfl, by rw [he], trivial⟩ (by decide) (by decide)
set_option maxRecDepth 65536 in
set_option maxHeartbeats 40000000 in
theorem own_rnn1 (l : Launch) (Z : State) (a0 : Array Value) (hw : ∀ d ∈ tables_1, d.before a0 Z = true) {zc : Int32} {fm : Value} {em : Nat}  (G : Gl Z zc fm em) (n0 : Nat) (h0 : Heap) (O0 : Old Z n0 h0) (a : Nat)   :
    MetF l [] Z n0 (⟨"java/util/Objects", "requireNonNull", "(Ljava/lang/Object;)Ljava/lang/Object;"⟩ : MethodName) jdk_31_method_10_code 1 (Option.some (FieldType.object "java/lang/Object")) ({ frames := 0, cells := 0, slots := 0, locals := 0 } : Room) #[(.ref a)] h0 [] (fun r h' => ∃ w, r = some w ∧ w = (.ref a) ∧ True) := by
  refine metF (plainFor_of_name pn_6) O0 (Ls := #[.val (.ref a)]) (fun m => by first | rfl | (simp [entryFrame, mkF, argsToLocals, Value.category]; done)) ?_
  intro p e s m below meth c T0 X0
  have K0_h0 := Keep.refl h0 []
  have n0le := X0.n0le
  obtain ⟨G_cs, G_zc, G_fm, isref_fm, G_assertionsDisabled, G_HI_BYTE_SHIFT, G_LO_BYTE_SHIFT, GS_em, GE_em, GF_em⟩ := id G
  have oz := X0.old.1
  have ltz0 := own_n GE_em.lt
  refine k_aloadN X0 d_jdk_31_10_0 rfl rfl (pc' := 1) rfl ?_
  refine k_ifnonnullYes X0 d_jdk_31_10_1 (pc' := 12) (by decide) (by decide) ?_
  refine k_aloadN X0 d_jdk_31_10_12 rfl rfl (pc' := 13) rfl ?_
  exact k_retFA X0 d_jdk_31_10_13 rfl rfl rfl rfl K0_h0 ⟨_, rfl, rfl, trivial⟩ (by decide) (by decide)
set_option maxRecDepth 65536 in
set_option maxHeartbeats 40000000 in
theorem own_optI (l : Launch) (Z : State) (a0 : Array Value) (hw : ∀ d ∈ tables_1, d.before a0 Z = true) {zc : Int32} {fm : Value} {em : Nat}  (G : Gl Z zc fm em) (n0 : Nat) (h0 : Heap) (O0 : Old Z n0 h0) (a : Nat) (x : Nat) (gw0 : n0 ≤ a) (q0 : Exa Z h0 a "java/util/Optional") (q1 : Fld Z h0 a "java/util/Optional" "value" "Ljava/lang/Object;" .null) :
    MetF l [] Z n0 (⟨"java/util/Optional", "<init>", "(Ljava/lang/Object;)V"⟩ : MethodName) jdk_32_method_2_code 2 (Option.none : Option FieldType) ({ frames := 1, cells := 0, slots := 0, locals := 12 } : Room) #[(.ref a), (.ref x)] h0 [a] (fun r h' => r = none ∧ (Exa Z h' a "java/util/Optional") ∧ (Fld Z h' a "java/util/Optional" "value" "Ljava/lang/Object;" (.ref x))) := by
  refine metF (plainFor_of_name pn_7) O0 (Ls := #[.val (.ref a), .val (.ref x)]) (fun m => by first | rfl | (simp [entryFrame, mkF, argsToLocals, Value.category]; done)) ?_
  intro p e s m below meth c T0 X0
  have K0_h0 := Keep.refl h0 [a]
  have n0le := X0.n0le
  have ltq0 := own_n q0.lt
  have ltq1 := own_n q1.lt
  obtain ⟨G_cs, G_zc, G_fm, isref_fm, G_assertionsDisabled, G_HI_BYTE_SHIFT, G_LO_BYTE_SHIFT, GS_em, GE_em, GF_em⟩ := id G
  have oz := X0.old.1
  have ltz0 := own_n GE_em.lt
  refine k_aloadN X0 d_jdk_32_2_0 rfl rfl (pc' := 1) rfl ?_
  refine k_initO X0 d_jdk_32_2_1 (w_181 hw) (w_16 hw) (w_17 hw) rfl (by decide) (W := 0) (Nat.le_of_eq rfl) (by decide) (pc' := 4) rfl fun T348 X349 => ?_
  refine k_aloadN X349 d_jdk_32_2_4 rfl rfl (pc' := 5) rfl ?_
  refine k_aloadN X349 d_jdk_32_2_5 rfl rfl (pc' := 6) rfl ?_
  have ge351 : n0 ≤ a := by omega
  refine k_putF X349 d_jdk_32_2_6 (host := "") (Or.inl (w_80 hw)) Via.refl q1 q0 (Or.inr ⟨(w_81 hw), rfl, X349.hnm⟩) (w_172 hw) (ty := (.object "java/lang/Object")) (by decide) rfl rfl trivial ge351 (pc' := 9) rfl fun T350 h350 L350 X350 W350 K350 => ?_
  have sz_h350 := K350.1
  have K0_h350 : Keep h0 h350 [a] := K0_h0.trans K350 (allS (Or.inl (List.mem_of_getElem? (i := 0) rfl)) all0)
  have F350 := q1.same W350
  have c352 := (q0.keep K350)
  exact k_retFV X350 d_jdk_32_2_9 rfl K0_h350 ⟨rfl, c352, F350⟩ (by decide) (by decide)
set_option maxRecDepth 65536 in
set_option maxHeartbeats 40000000 in
theorem own_optOf (l : Launch) (Z : State) (a0 : Array Value) (hw : ∀ d ∈ tables_1, d.before a0 Z = true) {zc : Int32} {fm : Value} {em : Nat}  (G : Gl Z zc fm em) (n0 : Nat) (h0 : Heap) (O0 : Old Z n0 h0) (x : Nat)   :
    MetF l [] Z n0 (⟨"java/util/Optional", "of", "(Ljava/lang/Object;)Ljava/util/Optional;"⟩ : MethodName) jdk_32_method_3_code 1 (Option.some (FieldType.object "java/util/Optional")) ({ frames := 2, cells := 1, slots := 1, locals := 26 } : Room) #[(.ref x)] h0 [] (fun r h' => ∃ w, r = some w ∧ ∃ (o : Nat), w = (.ref o) ∧ (Exa Z h' o "java/util/Optional") ∧ (Fld Z h' o "java/util/Optional" "value" "Ljava/lang/Object;" (.ref x)) ∧ (h0.size ≤ o)) := by
  refine metF (plainFor_of_name pn_7) O0 (Ls := #[.val (.ref x)]) (fun m => by first | rfl | (simp [entryFrame, mkF, argsToLocals, Value.category]; done)) ?_
  intro p e s m below meth c T0 X0
  have K0_h0 := Keep.refl h0 []
  have n0le := X0.n0le
  obtain ⟨G_cs, G_zc, G_fm, isref_fm, G_assertionsDisabled, G_HI_BYTE_SHIFT, G_LO_BYTE_SHIFT, GS_em, GE_em, GF_em⟩ := id G
  have oz := X0.old.1
  have ltz0 := own_n GE_em.lt
  refine k_newO X0 d_jdk_32_3_0 (w_171 hw) (w_172 hw) (w_72 hw) (by decide) (by decide) (pc' := 3) rfl fun T353 h353 b353 g353 X353 K353 E353 D353 S353 lt353 ge353 => ?_
  have sz_h353 := K353.1
  have K0_h353 : Keep h0 h353 [] := K0_h0.trans K353 all0
  have Fn353_value : Fld Z h353 b353 "java/util/Optional" "value" "Ljava/lang/Object;" .null := D353 (Or.inr (w_81 hw)) (ty := (.object "java/lang/Object")) (by decide)
  refine k_dup X353 d_jdk_32_3_3 rfl (pc' := 4) rfl ?_
  refine k_aloadN X353 d_jdk_32_3_4 rfl rfl (pc' := 5) rfl ?_
  refine k_callSVF X353 (y := (⟨"java/util/Objects", "requireNonNull", "(Ljava/lang/Object;)Ljava/lang/Object;"⟩ : MethodName)) d_jdk_32_3_5 (w_173 hw) (w_174 hw) (w_175 hw) (w_176 hw) (by decide) (argsL := [(.ref x)]) (rest := [(.ref b353), (.ref b353)]) (own_rnn1 l Z a0 hw G n0 h353 X353.old x ) rfl pd_25 rfl rfl (by decide) (W := 2) (Nat.le_of_eq rfl) (by decide) (by decide) (by decide) all0 (pc' := 8) rfl ?_
  rintro _ T354 h354 L354 X354 K354 ⟨rfl, -⟩
  have sz_h354 := K354.1
  have K0_h354 : Keep h0 h354 [] := K0_h353.trans K354 all0
  have c356 := (E353.keep K354)
  have c357 := (Fn353_value.keep K354 nin0)
  have ge358 : n0 ≤ b353 := by omega
  refine k_callPNF X354 (y := (⟨"java/util/Optional", "<init>", "(Ljava/lang/Object;)V"⟩ : MethodName)) d_jdk_32_3_8 (w_177 hw) (w_178 hw) (w_72 hw) (w_180 hw) (by decide) rfl rfl (argsL := [(.ref x)]) (rest := [(.ref b353)]) (own_optI l Z a0 hw G n0 h354 X354.old b353 x (by omega) c356 c357) rfl pd_26 rfl rfl (by decide) (W := 1) (Nat.le_of_eq rfl) (by decide) (by decide) (by decide) (allS ⟨trivial, ge358⟩ all0) (pc' := 11) rfl ?_
  rintro T359 h359 L359 X359 K359 ⟨q359_0, q359_1⟩
  have sz_h359 := K359.1
  have K0_h359 : Keep h0 h359 [] := K0_h354.trans K359 (allS (Or.inr (by omega)) all0)
  have lt359_0 := own_n q359_0.lt
  have lt359_1 := own_n q359_1.lt
  exact k_retFA X359 d_jdk_32_3_11 rfl rfl rfl rfl K0_h359 ⟨_, rfl, _, rfl, q359_0, q359_1, by omega⟩ (by decide) (by decide)
set_option maxRecDepth 65536 in
set_option maxHeartbeats 40000000 in
theorem own_optE (l : Launch) (Z : State) (a0 : Array Value) (hw : ∀ d ∈ tables_1, d.before a0 Z = true) {zc : Int32} {fm : Value} {em : Nat}  (G : Gl Z zc fm em) (n0 : Nat) (h0 : Heap) (O0 : Old Z n0 h0)    :
    MetF l [] Z n0 (⟨"java/util/Optional", "empty", "()Ljava/util/Optional;"⟩ : MethodName) jdk_32_method_1_code 1 (Option.some (FieldType.object "java/util/Optional")) ({ frames := 0, cells := 0, slots := 0, locals := 0 } : Room) #[] h0 [] (fun r h' => ∃ w, r = some w ∧ w = (.ref em) ∧ True) := by
  refine metF (plainFor_of_name pn_7) O0 (Ls := #[.unset]) (fun m => by first | rfl | (simp [entryFrame, mkF, argsToLocals, Value.category]; done)) ?_
  intro p e s m below meth c T0 X0
  have K0_h0 := Keep.refl h0 []
  have n0le := X0.n0le
  obtain ⟨G_cs, G_zc, G_fm, isref_fm, G_assertionsDisabled, G_HI_BYTE_SHIFT, G_LO_BYTE_SHIFT, GS_em, GE_em, GF_em⟩ := id G
  have oz := X0.old.1
  have ltz0 := own_n GE_em.lt
  refine k_getS X0 d_jdk_32_1_0 (host := "") (Or.inl (w_74 hw)) Via.refl (GS_em.ext X0.old.2) (pc' := 3) rfl fun T360 X361 => ?_
  refine k_astoreN X361 d_jdk_32_1_3 rfl (Ls' := #[.val (.ref em)]) rfl (pc' := 4) rfl ?_
  refine k_aloadN X361 d_jdk_32_1_4 rfl rfl (pc' := 5) rfl ?_
  exact k_retFA X361 d_jdk_32_1_5 rfl rfl rfl rfl K0_h0 ⟨_, rfl, rfl, trivial⟩ (by decide) (by decide)
set_option maxRecDepth 65536 in
set_option maxHeartbeats 40000000 in
theorem own_isP0 (l : Launch) (Z : State) (a0 : Array Value) (hw : ∀ d ∈ tables_1, d.before a0 Z = true) {zc : Int32} {fm : Value} {em : Nat}  (G : Gl Z zc fm em) (n0 : Nat) (h0 : Heap) (O0 : Old Z n0 h0) (a : Nat)  (q0 : Fld Z h0 a "java/util/Optional" "value" "Ljava/lang/Object;" .null) :
    MetF l [] Z n0 (⟨"java/util/Optional", "isPresent", "()Z"⟩ : MethodName) jdk_32_method_6_code 1 (Option.some FieldType.boolean) ({ frames := 0, cells := 0, slots := 0, locals := 0 } : Room) #[(.ref a)] h0 [] (fun r h' => ∃ w, r = some w ∧ w = (.int (0 : Int32)) ∧ True) := by
  refine metF (plainFor_of_name pn_7) O0 (Ls := #[.val (.ref a)]) (fun m => by first | rfl | (simp [entryFrame, mkF, argsToLocals, Value.category]; done)) ?_
  intro p e s m below meth c T0 X0
  have K0_h0 := Keep.refl h0 []
  have n0le := X0.n0le
  have ltq0 := own_n q0.lt
  obtain ⟨G_cs, G_zc, G_fm, isref_fm, G_assertionsDisabled, G_HI_BYTE_SHIFT, G_LO_BYTE_SHIFT, GS_em, GE_em, GF_em⟩ := id G
  have oz := X0.old.1
  have ltz0 := own_n GE_em.lt
  refine k_aloadN X0 d_jdk_32_6_0 rfl rfl (pc' := 1) rfl ?_
  refine k_getF X0 d_jdk_32_6_1 (host := "") (Or.inl (w_80 hw)) Via.refl q0 (pc' := 4) rfl fun T362 X363 => ?_
  refine k_ifnullYes X363 d_jdk_32_6_4 (pc' := 11) (by decide) (by decide) ?_
  refine k_iconst X363 d_jdk_32_6_11 (w := (0 : Int32)) rfl (pc' := 12) rfl ?_
  exact k_retFN X363 (w := (0 : Int32)) d_jdk_32_6_12 (t := .boolean) rfl (by simp) rfl K0_h0 ⟨_, rfl, rfl, trivial⟩ (by decide) (by decide)
set_option maxRecDepth 65536 in
set_option maxHeartbeats 40000000 in
theorem own_isP1 (l : Launch) (Z : State) (a0 : Array Value) (hw : ∀ d ∈ tables_1, d.before a0 Z = true) {zc : Int32} {fm : Value} {em : Nat}  (G : Gl Z zc fm em) (n0 : Nat) (h0 : Heap) (O0 : Old Z n0 h0) (a : Nat) (x : Nat)  (q0 : Fld Z h0 a "java/util/Optional" "value" "Ljava/lang/Object;" (.ref x)) :
    MetF l [] Z n0 (⟨"java/util/Optional", "isPresent", "()Z"⟩ : MethodName) jdk_32_method_6_code 1 (Option.some FieldType.boolean) ({ frames := 0, cells := 0, slots := 0, locals := 0 } : Room) #[(.ref a)] h0 [] (fun r h' => ∃ w, r = some w ∧ w = (.int (1 : Int32)) ∧ True) := by
  refine metF (plainFor_of_name pn_7) O0 (Ls := #[.val (.ref a)]) (fun m => by first | rfl | (simp [entryFrame, mkF, argsToLocals, Value.category]; done)) ?_
  intro p e s m below meth c T0 X0
  have K0_h0 := Keep.refl h0 []
  have n0le := X0.n0le
  have ltq0 := own_n q0.lt
  obtain ⟨G_cs, G_zc, G_fm, isref_fm, G_assertionsDisabled, G_HI_BYTE_SHIFT, G_LO_BYTE_SHIFT, GS_em, GE_em, GF_em⟩ := id G
  have oz := X0.old.1
  have ltz0 := own_n GE_em.lt
  refine k_aloadN X0 d_jdk_32_6_0 rfl rfl (pc' := 1) rfl ?_
  refine k_getF X0 d_jdk_32_6_1 (host := "") (Or.inl (w_80 hw)) Via.refl q0 (pc' := 4) rfl fun T364 X365 => ?_
  refine k_ifnullNo X365 d_jdk_32_6_4 (pc' := 7) rfl ?_
  refine k_iconst X365 d_jdk_32_6_7 (w := (1 : Int32)) rfl (pc' := 8) rfl ?_
  refine k_goto X365 d_jdk_32_6_8 (pc' := 12) (by decide) (by decide) ?_
  exact k_retFN X365 (w := (1 : Int32)) d_jdk_32_6_12 (t := .boolean) rfl (by simp) rfl K0_h0 ⟨_, rfl, rfl, trivial⟩ (by decide) (by decide)
set_option maxRecDepth 65536 in
set_option maxHeartbeats 40000000 in
theorem own_optG (l : Launch) (Z : State) (a0 : Array Value) (hw : ∀ d ∈ tables_1, d.before a0 Z = true) {zc : Int32} {fm : Value} {em : Nat}  (G : Gl Z zc fm em) (n0 : Nat) (h0 : Heap) (O0 : Old Z n0 h0) (a : Nat) (x : Nat)  (q0 : Fld Z h0 a "java/util/Optional" "value" "Ljava/lang/Object;" (.ref x)) :
    MetF l [] Z n0 (⟨"java/util/Optional", "get", "()Ljava/lang/Object;"⟩ : MethodName) jdk_32_method_5_code 1 (Option.some (FieldType.object "java/lang/Object")) ({ frames := 0, cells := 0, slots := 0, locals := 0 } : Room) #[(.ref a)] h0 [] (fun r h' => ∃ w, r = some w ∧ w = (.ref x) ∧ True) := by
  refine metF (plainFor_of_name pn_7) O0 (Ls := #[.val (.ref a)]) (fun m => by first | rfl | (simp [entryFrame, mkF, argsToLocals, Value.category]; done)) ?_
  intro p e s m below meth c T0 X0
  have K0_h0 := Keep.refl h0 []
  have n0le := X0.n0le
  have ltq0 := own_n q0.lt
  obtain ⟨G_cs, G_zc, G_fm, isref_fm, G_assertionsDisabled, G_HI_BYTE_SHIFT, G_LO_BYTE_SHIFT, GS_em, GE_em, GF_em⟩ := id G
  have oz := X0.old.1
  have ltz0 := own_n GE_em.lt
  refine k_aloadN X0 d_jdk_32_5_0 rfl rfl (pc' := 1) rfl ?_
  refine k_getF X0 d_jdk_32_5_1 (host := "") (Or.inl (w_80 hw)) Via.refl q0 (pc' := 4) rfl fun T366 X367 => ?_
  refine k_ifnonnullYes X367 d_jdk_32_5_4 (pc' := 17) (by decide) (by decide) ?_
  refine k_aloadN X367 d_jdk_32_5_17 rfl rfl (pc' := 18) rfl ?_
  refine k_getF X367 d_jdk_32_5_18 (host := "") (Or.inl (w_80 hw)) Via.refl q0 (pc' := 21) rfl fun T368 X369 => ?_
  exact k_retFA X369 d_jdk_32_5_21 rfl rfl rfl rfl K0_h0 ⟨_, rfl, rfl, trivial⟩ (by decide) (by decide)
set_option maxRecDepth 65536 in
set_option maxHeartbeats 40000000 in
theorem own_hinA (l : Launch) (Z : State) (a0 : Array Value) (hw : ∀ d ∈ tables_1, d.before a0 Z = true) {zc : Int32} {fm : Value} {em : Nat}  (G : Gl Z zc fm em) (n0 : Nat) (h0 : Heap) (O0 : Old Z n0 h0) (a : Nat) (t : Nat) (kt : ClassId) (cd : Int32) (zz : Int32) (bs : List Value) (cs : List Int32) (hn : cs.length ≤ 88) (hr : own_chs cs) (hab : ¬ own_tok cs)  (q0 : Exa Z h0 a "java/lang/String") (q1 : Fld Z h0 a "java/lang/String" "value" "[B" (.ref t)) (q2 : Fld Z h0 a "java/lang/String" "coder" "B" (.int cd)) (q3 : Arv Z h0 t kt .byte zz bs (.int (0 : Int32))) (q4 : own_cod cs cd zz bs) :
    MetF l [] Z n0 (⟨"com/example/crossgate/crossgate/AgentToken", "handleIn", "(Ljava/lang/String;)Ljava/util/Optional;"⟩ : MethodName) prog_11_method_5_code 1 (Option.some (FieldType.object "java/util/Optional")) ({ frames := 5, cells := 0, slots := 0, locals := 66 } : Room) #[(.ref a)] h0 [] (fun r h' => ∃ w, r = some w ∧ w = (.ref em) ∧ True) := by
  refine metF (plainFor_of_name pn_8) O0 (Ls := #[.val (.ref a)]) (fun m => by first | rfl | (simp [entryFrame, mkF, argsToLocals, Value.category]; done)) ?_
  intro p e s m below meth c T0 X0
  have K0_h0 := Keep.refl h0 []
  have n0le := X0.n0le
  have ltq0 := own_n q0.lt
  have ltq1 := own_n q1.lt
  have ltq2 := own_n q2.lt
  have ltq3 := own_n q3.lt
  obtain ⟨G_cs, G_zc, G_fm, isref_fm, G_assertionsDisabled, G_HI_BYTE_SHIFT, G_LO_BYTE_SHIFT, GS_em, GE_em, GF_em⟩ := id G
  have oz := X0.old.1
  have ltz0 := own_n GE_em.lt
  refine k_aloadN X0 d_prog_11_5_0 rfl rfl (pc' := 1) rfl ?_
  refine k_callVVF X0 (y := (⟨"java/lang/String", "length", "()I"⟩ : MethodName)) d_prog_11_5_1 (w_38 hw) (w_39 hw) (w_41 hw) (w_40 hw) (w_7 hw) (w_42 hw) (by decide) (notFace_of_selects (args := #[]) (mvT X0.hZ (w_41 hw))) q0 (argsL := []) (rest := []) (own_len l Z a0 hw G n0 h0 X0.old a t kt cd zz bs cs (by omega) q0 q1 q2 q3 q4) rfl pd_21 rfl rfl (by decide) (W := 0) (Nat.le_of_eq rfl) (by decide) (by decide) (by decide) all0 (pc' := 4) rfl ?_
  rintro _ T370 h370 L370 X370 K370 ⟨rfl, -⟩
  have sz_h370 := K370.1
  have K0_h370 : Keep h0 h370 [] := K0_h0.trans K370 all0
  refine k_bipush X370 d_prog_11_5_4 (w := (87 : Int32)) rfl (pc' := 6) rfl ?_
  by_cases hc372 : cs.length = 87
  · have h87 : Int32.ofNat cs.length = 87 := by rw [hc372]; rfl
    refine k_icmpNo X370 d_prog_11_5_6 (teq h87).2 (pc' := 9) rfl ?_
    refine k_aloadN X370 d_prog_11_5_9 rfl rfl (pc' := 10) rfl ?_
    refine k_bipush X370 d_prog_11_5_10 (w := (43 : Int32)) rfl (pc' := 12) rfl ?_
    have c373 := (q0.keep K370)
    have c374 := (q1.keep K370 nin0)
    have c375 := (q2.keep K370 nin0)
    have c376 := (q3.keep K370 nin0)
    refine k_callVVF X370 (y := (⟨"java/lang/String", "charAt", "(I)C"⟩ : MethodName)) d_prog_11_5_12 (w_48 hw) (w_49 hw) (w_51 hw) (w_50 hw) (w_7 hw) (w_52 hw) (by decide) (notFace_of_selects (args := #[]) (mvT X370.hZ (w_51 hw))) c373 (argsL := [(.int (43 : Int32))]) (rest := []) (own_charAt l Z a0 hw G n0 h370 X370.old a t kt cd zz bs cs 43 (43 : Int32) rfl (by omega) (by omega) (own_chs_at hr (by omega)) c373 c374 c375 c376 q4) rfl pd_27 rfl rfl (by decide) (W := 0) (Nat.le_of_eq rfl) (by decide) (by decide) (by decide) all0 (pc' := 15) rfl ?_
    rintro _ T377 h377 L377 X377 K377 ⟨rfl, -⟩
    have sz_h377 := K377.1
    have K0_h377 : Keep h0 h377 [] := K0_h370.trans K377 all0
    refine k_bipush X377 d_prog_11_5_15 (w := (46 : Int32)) rfl (pc' := 17) rfl ?_
    refine k_icmpNo X377 d_prog_11_5_17 (feq (fun q => hab ⟨hc372, q⟩)).1 (pc' := 20) rfl ?_
    refine k_callSVF X377 (y := (⟨"java/util/Optional", "empty", "()Ljava/util/Optional;"⟩ : MethodName)) d_prog_11_5_20 (w_70 hw) (w_71 hw) (w_72 hw) (w_73 hw) (by decide) (argsL := []) (rest := []) (own_optE l Z a0 hw G n0 h377 X377.old  ) rfl pd_28 rfl rfl (by decide) (W := 0) (Nat.le_of_eq rfl) (by decide) (by decide) (by decide) all0 (pc' := 23) rfl ?_
    rintro _ T379 h379 L379 X379 K379 ⟨rfl, -⟩
    have sz_h379 := K379.1
    have K0_h379 : Keep h0 h379 [] := K0_h377.trans K379 all0
    exact k_retFA X379 d_prog_11_5_23 rfl rfl rfl rfl K0_h379 ⟨_, rfl, rfl, trivial⟩ (by decide) (by decide)
  · have h87 : ¬ Int32.ofNat cs.length = 87 := fun q => hc372 (own_inj (by omega) (by decide) q)
    refine k_icmpYes X370 d_prog_11_5_6 (feq h87).2 (pc' := 20) (by decide) (by decide) ?_
    refine k_callSVF X370 (y := (⟨"java/util/Optional", "empty", "()Ljava/util/Optional;"⟩ : MethodName)) d_prog_11_5_20 (w_70 hw) (w_71 hw) (w_72 hw) (w_73 hw) (by decide) (argsL := []) (rest := []) (own_optE l Z a0 hw G n0 h370 X370.old  ) rfl pd_28 rfl rfl (by decide) (W := 0) (Nat.le_of_eq rfl) (by decide) (by decide) (by decide) all0 (pc' := 23) rfl ?_
    rintro _ T381 h381 L381 X381 K381 ⟨rfl, -⟩
    have sz_h381 := K381.1
    have K0_h381 : Keep h0 h381 [] := K0_h370.trans K381 all0
    exact k_retFA X381 d_prog_11_5_23 rfl rfl rfl rfl K0_h381 ⟨_, rfl, rfl, trivial⟩ (by decide) (by decide)
set_option maxRecDepth 65536 in
set_option maxHeartbeats 40000000 in
theorem own_hinP (l : Launch) (Z : State) (a0 : Array Value) (hw : ∀ d ∈ tables_1, d.before a0 Z = true) {zc : Int32} {fm : Value} {em : Nat}  (G : Gl Z zc fm em) (n0 : Nat) (h0 : Heap) (O0 : Old Z n0 h0) (a : Nat) (t : Nat) (kt : ClassId) (cd : Int32) (zz : Int32) (bs : List Value) (cs : List Int32) (hn : cs.length ≤ 88) (hr : own_chs cs) (hpr : own_tok cs)  (q0 : Exa Z h0 a "java/lang/String") (q1 : Fld Z h0 a "java/lang/String" "value" "[B" (.ref t)) (q2 : Fld Z h0 a "java/lang/String" "coder" "B" (.int cd)) (q3 : Arv Z h0 t kt .byte zz bs (.int (0 : Int32))) (q4 : own_cod cs cd zz bs) :
    MetF l [] Z n0 (⟨"com/example/crossgate/crossgate/AgentToken", "handleIn", "(Ljava/lang/String;)Ljava/util/Optional;"⟩ : MethodName) prog_11_method_5_code 1 (Option.some (FieldType.object "java/util/Optional")) ({ frames := 7, cells := 4, slots := 137, locals := 110 } : Room) #[(.ref a)] h0 [] (fun r h' => ∃ w, r = some w ∧ ∃ (o9 : Nat), ∃ (r9 : Nat), ∃ (t9 : Nat), ∃ (kt9 : ClassId), ∃ (cd9 : Int32), ∃ (zz9 : Int32), ∃ (bs9 : List Value), w = (.ref o9) ∧ (Exa Z h' o9 "java/util/Optional") ∧ (Fld Z h' o9 "java/util/Optional" "value" "Ljava/lang/Object;" (.ref r9)) ∧ (h0.size ≤ o9) ∧ (Exa Z h' r9 "java/lang/String") ∧ (Fld Z h' r9 "java/lang/String" "value" "[B" (.ref t9)) ∧ (Fld Z h' r9 "java/lang/String" "coder" "B" (.int cd9)) ∧ (Arv Z h' t9 kt9 .byte zz9 bs9 (.int (0 : Int32))) ∧ (h0.size ≤ r9) ∧ (h0.size ≤ t9) ∧ (own_cod (cs.take 43) cd9 zz9 bs9)) := by
  refine metF (plainFor_of_name pn_8) O0 (Ls := #[.val (.ref a)]) (fun m => by first | rfl | (simp [entryFrame, mkF, argsToLocals, Value.category]; done)) ?_
  intro p e s m below meth c T0 X0
  have K0_h0 := Keep.refl h0 []
  have n0le := X0.n0le
  have ltq0 := own_n q0.lt
  have ltq1 := own_n q1.lt
  have ltq2 := own_n q2.lt
  have ltq3 := own_n q3.lt
  obtain ⟨G_cs, G_zc, G_fm, isref_fm, G_assertionsDisabled, G_HI_BYTE_SHIFT, G_LO_BYTE_SHIFT, GS_em, GE_em, GF_em⟩ := id G
  have oz := X0.old.1
  have ltz0 := own_n GE_em.lt
  have hlen := hpr.1
  refine k_aloadN X0 d_prog_11_5_0 rfl rfl (pc' := 1) rfl ?_
  refine k_callVVF X0 (y := (⟨"java/lang/String", "length", "()I"⟩ : MethodName)) d_prog_11_5_1 (w_38 hw) (w_39 hw) (w_41 hw) (w_40 hw) (w_7 hw) (w_42 hw) (by decide) (notFace_of_selects (args := #[]) (mvT X0.hZ (w_41 hw))) q0 (argsL := []) (rest := []) (own_len l Z a0 hw G n0 h0 X0.old a t kt cd zz bs cs (by omega) q0 q1 q2 q3 q4) rfl pd_21 rfl rfl (by decide) (W := 0) (Nat.le_of_eq rfl) (by decide) (by decide) (by decide) all0 (pc' := 4) rfl ?_
  rintro _ T383 h383 L383 X383 K383 ⟨rfl, -⟩
  have sz_h383 := K383.1
  have K0_h383 : Keep h0 h383 [] := K0_h0.trans K383 all0
  refine k_bipush X383 d_prog_11_5_4 (w := (87 : Int32)) rfl (pc' := 6) rfl ?_
  have h87 : Int32.ofNat cs.length = 87 := by rw [hlen]; rfl
  refine k_icmpNo X383 d_prog_11_5_6 (teq h87).2 (pc' := 9) rfl ?_
  refine k_aloadN X383 d_prog_11_5_9 rfl rfl (pc' := 10) rfl ?_
  refine k_bipush X383 d_prog_11_5_10 (w := (43 : Int32)) rfl (pc' := 12) rfl ?_
  have c385 := (q0.keep K383)
  have c386 := (q1.keep K383 nin0)
  have c387 := (q2.keep K383 nin0)
  have c388 := (q3.keep K383 nin0)
  refine k_callVVF X383 (y := (⟨"java/lang/String", "charAt", "(I)C"⟩ : MethodName)) d_prog_11_5_12 (w_48 hw) (w_49 hw) (w_51 hw) (w_50 hw) (w_7 hw) (w_52 hw) (by decide) (notFace_of_selects (args := #[]) (mvT X383.hZ (w_51 hw))) c385 (argsL := [(.int (43 : Int32))]) (rest := []) (own_charAt l Z a0 hw G n0 h383 X383.old a t kt cd zz bs cs 43 (43 : Int32) rfl (by omega) (by omega) (own_chs_at hr (by omega)) c385 c386 c387 c388 q4) rfl pd_27 rfl rfl (by decide) (W := 0) (Nat.le_of_eq rfl) (by decide) (by decide) (by decide) all0 (pc' := 15) rfl ?_
  rintro _ T389 h389 L389 X389 K389 ⟨rfl, -⟩
  have sz_h389 := K389.1
  have K0_h389 : Keep h0 h389 [] := K0_h383.trans K389 all0
  refine k_bipush X389 d_prog_11_5_15 (w := (46 : Int32)) rfl (pc' := 17) rfl ?_
  refine k_icmpYes X389 d_prog_11_5_17 (teq hpr.2).1 (pc' := 24) (by decide) (by decide) ?_
  refine k_aloadN X389 d_prog_11_5_24 rfl rfl (pc' := 25) rfl ?_
  refine k_iconst X389 d_prog_11_5_25 (w := (0 : Int32)) rfl (pc' := 26) rfl ?_
  refine k_bipush X389 d_prog_11_5_26 (w := (43 : Int32)) rfl (pc' := 28) rfl ?_
  have c391 := (c385.keep K389)
  have c392 := (c386.keep K389 nin0)
  have c393 := (c387.keep K389 nin0)
  have c394 := (c388.keep K389 nin0)
  refine k_callVVF X389 (y := (⟨"java/lang/String", "substring", "(II)Ljava/lang/String;"⟩ : MethodName)) d_prog_11_5_28 (w_114 hw) (w_115 hw) (w_117 hw) (w_116 hw) (w_7 hw) (w_118 hw) (by decide) (notFace_of_selects (args := #[]) (mvT X389.hZ (w_117 hw))) c391 (argsL := [(.int (0 : Int32)), (.int (43 : Int32))]) (rest := []) (own_sub2 l Z a0 hw G n0 h389 X389.old a t kt cd zz bs cs 43 (43 : Int32) rfl (by decide) (by omega) (by omega) (by decide) hr c391 c392 c393 c394 q4) rfl pd_29 rfl rfl (by decide) (W := 0) (Nat.le_of_eq rfl) (by decide) (by decide) (by decide) all0 (pc' := 31) rfl ?_
  rintro _ T401 h401 L401 X401 K401 ⟨r9_395, t9_396, kt9_397, cd9_398, zz9_399, bs9_400, rfl, q401_0, q401_1, q401_2, q401_3, q401_4, q401_5, q401_6⟩
  have sz_h401 := K401.1
  have K0_h401 : Keep h0 h401 [] := K0_h389.trans K401 all0
  have lt401_0 := own_n q401_0.lt
  have lt401_1 := own_n q401_1.lt
  have lt401_2 := own_n q401_2.lt
  have lt401_3 := own_n q401_3.lt
  refine k_callSVF X401 (y := (⟨"java/util/Optional", "of", "(Ljava/lang/Object;)Ljava/util/Optional;"⟩ : MethodName)) d_prog_11_5_31 (w_168 hw) (w_169 hw) (w_72 hw) (w_170 hw) (by decide) (argsL := [(.ref r9_395)]) (rest := []) (own_optOf l Z a0 hw G n0 h401 X401.old r9_395 ) rfl pd_30 rfl rfl (by decide) (W := 0) (Nat.le_of_eq rfl) (by decide) (by decide) (by decide) all0 (pc' := 34) rfl ?_
  rintro _ T404 h404 L404 X404 K404 ⟨o_403, rfl, q404_0, q404_1, q404_2⟩
  have sz_h404 := K404.1
  have K0_h404 : Keep h0 h404 [] := K0_h401.trans K404 all0
  have lt404_0 := own_n q404_0.lt
  have lt404_1 := own_n q404_1.lt
  have c406 := (q401_0.keep K404)
  have c407 := (q401_1.keep K404 nin0)
  have c408 := (q401_2.keep K404 nin0)
  have c409 := (q401_3.keep K404 nin0)
  exact k_retFA X404 d_prog_11_5_34 rfl rfl rfl rfl K0_h404 ⟨_, rfl, _, _, _, _, _, _, _, rfl, q404_0, q404_1, by omega, c406, c407, c408, c409, by omega, by omega, q401_6⟩ (by decide) (by decide)
set_option maxRecDepth 65536 in
set_option maxHeartbeats 40000000 in
theorem own_pick (l : Launch) (Z : State) (a0 : Array Value) (hw : ∀ d ∈ tables_1, d.before a0 Z = true) {zc : Int32} {fm : Value} {em : Nat}  (G : Gl Z zc fm em) (n0 : Nat) (h0 : Heap) (O0 : Old Z n0 h0) (k : Int32)   :
    MetF l [] Z n0 (⟨"com/example/crossgate/crossgate/AgentTokenHandleInPinLaw", "pick", "(I)[C"⟩ : MethodName) method_2_code 1 (Option.some (FieldType.array FieldType.char)) ({ frames := 0, cells := 1, slots := 88, locals := 0 } : Room) #[(.int k)] h0 [] (fun r h' => ∃ w, r = some w ∧ ∃ (t : Nat), ∃ (kt : ClassId), ∃ (n : Nat), w = (.ref t) ∧ (Arv Z h' t kt .char (Int32.ofNat n) ((List.replicate n (0 : Int32)).map Value.int) (.int (0 : Int32))) ∧ (h0.size ≤ t) ∧ (own_szs n)) := by
  refine metF (plainFor_of_name pn_9) O0 (Ls := #[.val (.int k)]) (fun m => by first | rfl | (simp [entryFrame, mkF, argsToLocals, Value.category]; done)) ?_
  intro p e s m below meth c T0 X0
  have K0_h0 := Keep.refl h0 []
  have n0le := X0.n0le
  obtain ⟨G_cs, G_zc, G_fm, isref_fm, G_assertionsDisabled, G_HI_BYTE_SHIFT, G_LO_BYTE_SHIFT, GS_em, GE_em, GF_em⟩ := id G
  have oz := X0.old.1
  have ltz0 := own_n GE_em.lt
  refine k_iloadN X0 d_2_0 rfl (pc' := 1) rfl ?_
  by_cases hc410 : k = (0 : Int32)
  · refine k_ifYes X0 d_2_1 ((if0 _ _).trans (teq hc410).1) (pc' := 9) (by decide) (by decide) ?_
    refine k_bipush X0 d_2_9 (w := (87 : Int32)) rfl (pc' := 11) rfl ?_
    refine k_newP X0 d_2_11 (w_4 hw) (by decide) (cap := 87) (by decide) (by decide) (by decide) (by decide) (pc' := 13) rfl fun T411 h411 b411 k411 g411 X411 K411 V411 S411 lt411 ge411 => ?_
    have sz_h411 := K411.1
    have K0_h411 : Keep h0 h411 [] := K0_h0.trans K411 all0
    have Vq : Arv Z h411 b411 k411 .char (Int32.ofNat 87) ((List.replicate 87 (0 : Int32)).map Value.int) (.int (0 : Int32)) := Arv.pad V411 (own_padz 87)
    exact k_retFA X411 d_2_13 rfl rfl rfl rfl K0_h411 ⟨_, rfl, _, _, 87, rfl, Vq, by omega, by unfold own_szs; omega⟩ (by decide) (by decide)
  · refine k_ifNo X0 d_2_1 ((if0 _ _).trans (feq hc410).1) (pc' := 4) rfl ?_
    refine k_iloadN X0 d_2_4 rfl (pc' := 5) rfl ?_
    refine k_iconst X0 d_2_5 (w := (1 : Int32)) rfl (pc' := 6) rfl ?_
    by_cases hc412 : k = (1 : Int32)
    · refine k_icmpNo X0 d_2_6 (teq hc412).2 (pc' := 9) rfl ?_
      refine k_bipush X0 d_2_9 (w := (87 : Int32)) rfl (pc' := 11) rfl ?_
      refine k_newP X0 d_2_11 (w_4 hw) (by decide) (cap := 87) (by decide) (by decide) (by decide) (by decide) (pc' := 13) rfl fun T413 h413 b413 k413 g413 X413 K413 V413 S413 lt413 ge413 => ?_
      have sz_h413 := K413.1
      have K0_h413 : Keep h0 h413 [] := K0_h0.trans K413 all0
      have Vq : Arv Z h413 b413 k413 .char (Int32.ofNat 87) ((List.replicate 87 (0 : Int32)).map Value.int) (.int (0 : Int32)) := Arv.pad V413 (own_padz 87)
      exact k_retFA X413 d_2_13 rfl rfl rfl rfl K0_h413 ⟨_, rfl, _, _, 87, rfl, Vq, by omega, by unfold own_szs; omega⟩ (by decide) (by decide)
    · refine k_icmpYes X0 d_2_6 (feq hc412).2 (pc' := 14) (by decide) (by decide) ?_
      refine k_iloadN X0 d_2_14 rfl (pc' := 15) rfl ?_
      refine k_iconst X0 d_2_15 (w := (2 : Int32)) rfl (pc' := 16) rfl ?_
      by_cases hc414 : k = (2 : Int32)
      · refine k_icmpNo X0 d_2_16 (teq hc414).2 (pc' := 19) rfl ?_
        refine k_bipush X0 d_2_19 (w := (86 : Int32)) rfl (pc' := 21) rfl ?_
        refine k_newP X0 d_2_21 (w_4 hw) (by decide) (cap := 86) (by decide) (by decide) (by decide) (by decide) (pc' := 23) rfl fun T415 h415 b415 k415 g415 X415 K415 V415 S415 lt415 ge415 => ?_
        have sz_h415 := K415.1
        have K0_h415 : Keep h0 h415 [] := K0_h0.trans K415 all0
        have Vq : Arv Z h415 b415 k415 .char (Int32.ofNat 86) ((List.replicate 86 (0 : Int32)).map Value.int) (.int (0 : Int32)) := Arv.pad V415 (own_padz 86)
        exact k_retFA X415 d_2_23 rfl rfl rfl rfl K0_h415 ⟨_, rfl, _, _, 86, rfl, Vq, by omega, by unfold own_szs; omega⟩ (by decide) (by decide)
      · refine k_icmpYes X0 d_2_16 (feq hc414).2 (pc' := 24) (by decide) (by decide) ?_
        refine k_iloadN X0 d_2_24 rfl (pc' := 25) rfl ?_
        refine k_iconst X0 d_2_25 (w := (3 : Int32)) rfl (pc' := 26) rfl ?_
        by_cases hc416 : k = (3 : Int32)
        · refine k_icmpNo X0 d_2_26 (teq hc416).2 (pc' := 29) rfl ?_
          refine k_bipush X0 d_2_29 (w := (88 : Int32)) rfl (pc' := 31) rfl ?_
          refine k_newP X0 d_2_31 (w_4 hw) (by decide) (cap := 88) (by decide) (by decide) (by decide) (by decide) (pc' := 33) rfl fun T417 h417 b417 k417 g417 X417 K417 V417 S417 lt417 ge417 => ?_
          have sz_h417 := K417.1
          have K0_h417 : Keep h0 h417 [] := K0_h0.trans K417 all0
          have Vq : Arv Z h417 b417 k417 .char (Int32.ofNat 88) ((List.replicate 88 (0 : Int32)).map Value.int) (.int (0 : Int32)) := Arv.pad V417 (own_padz 88)
          exact k_retFA X417 d_2_33 rfl rfl rfl rfl K0_h417 ⟨_, rfl, _, _, 88, rfl, Vq, by omega, by unfold own_szs; omega⟩ (by decide) (by decide)
        · refine k_icmpYes X0 d_2_26 (feq hc416).2 (pc' := 34) (by decide) (by decide) ?_
          refine k_iloadN X0 d_2_34 rfl (pc' := 35) rfl ?_
          refine k_iconst X0 d_2_35 (w := (4 : Int32)) rfl (pc' := 36) rfl ?_
          by_cases hc418 : k = (4 : Int32)
          · refine k_icmpNo X0 d_2_36 (teq hc418).2 (pc' := 39) rfl ?_
            refine k_bipush X0 d_2_39 (w := (44 : Int32)) rfl (pc' := 41) rfl ?_
            refine k_newP X0 d_2_41 (w_4 hw) (by decide) (cap := 44) (by decide) (by decide) (by decide) (by decide) (pc' := 43) rfl fun T419 h419 b419 k419 g419 X419 K419 V419 S419 lt419 ge419 => ?_
            have sz_h419 := K419.1
            have K0_h419 : Keep h0 h419 [] := K0_h0.trans K419 all0
            have Vq : Arv Z h419 b419 k419 .char (Int32.ofNat 44) ((List.replicate 44 (0 : Int32)).map Value.int) (.int (0 : Int32)) := Arv.pad V419 (own_padz 44)
            exact k_retFA X419 d_2_43 rfl rfl rfl rfl K0_h419 ⟨_, rfl, _, _, 44, rfl, Vq, by omega, by unfold own_szs; omega⟩ (by decide) (by decide)
          · refine k_icmpYes X0 d_2_36 (feq hc418).2 (pc' := 44) (by decide) (by decide) ?_
            refine k_iloadN X0 d_2_44 rfl (pc' := 45) rfl ?_
            refine k_iconst X0 d_2_45 (w := (5 : Int32)) rfl (pc' := 46) rfl ?_
            by_cases hc420 : k = (5 : Int32)
            · refine k_icmpNo X0 d_2_46 (teq hc420).2 (pc' := 49) rfl ?_
              refine k_bipush X0 d_2_49 (w := (43 : Int32)) rfl (pc' := 51) rfl ?_
              refine k_newP X0 d_2_51 (w_4 hw) (by decide) (cap := 43) (by decide) (by decide) (by decide) (by decide) (pc' := 53) rfl fun T421 h421 b421 k421 g421 X421 K421 V421 S421 lt421 ge421 => ?_
              have sz_h421 := K421.1
              have K0_h421 : Keep h0 h421 [] := K0_h0.trans K421 all0
              have Vq : Arv Z h421 b421 k421 .char (Int32.ofNat 43) ((List.replicate 43 (0 : Int32)).map Value.int) (.int (0 : Int32)) := Arv.pad V421 (own_padz 43)
              exact k_retFA X421 d_2_53 rfl rfl rfl rfl K0_h421 ⟨_, rfl, _, _, 43, rfl, Vq, by omega, by unfold own_szs; omega⟩ (by decide) (by decide)
            · refine k_icmpYes X0 d_2_46 (feq hc420).2 (pc' := 54) (by decide) (by decide) ?_
              refine k_iloadN X0 d_2_54 rfl (pc' := 55) rfl ?_
              refine k_bipush X0 d_2_55 (w := (6 : Int32)) rfl (pc' := 57) rfl ?_
              by_cases hc422 : k = (6 : Int32)
              · refine k_icmpNo X0 d_2_57 (teq hc422).2 (pc' := 60) rfl ?_
                refine k_iconst X0 d_2_60 (w := (1 : Int32)) rfl (pc' := 61) rfl ?_
                refine k_newP X0 d_2_61 (w_4 hw) (by decide) (cap := 1) (by decide) (by decide) (by decide) (by decide) (pc' := 63) rfl fun T423 h423 b423 k423 g423 X423 K423 V423 S423 lt423 ge423 => ?_
                have sz_h423 := K423.1
                have K0_h423 : Keep h0 h423 [] := K0_h0.trans K423 all0
                have V423' : Arv Z h423 b423 k423 .char (1 : Int32) [(.int (0 : Int32))] (.int (0 : Int32)) := Arv.pad V423 (pad_rep [] (.int (0 : Int32)) 1)
                have Vq : Arv Z h423 b423 k423 .char (Int32.ofNat 1) ((List.replicate 1 (0 : Int32)).map Value.int) (.int (0 : Int32)) := Arv.pad V423 (own_padz 1)
                exact k_retFA X423 d_2_63 rfl rfl rfl rfl K0_h423 ⟨_, rfl, _, _, 1, rfl, Vq, by omega, by unfold own_szs; omega⟩ (by decide) (by decide)
              · refine k_icmpYes X0 d_2_57 (feq hc422).2 (pc' := 64) (by decide) (by decide) ?_
                refine k_iconst X0 d_2_64 (w := (0 : Int32)) rfl (pc' := 65) rfl ?_
                refine k_newP X0 d_2_65 (w_4 hw) (by decide) (cap := 0) (by decide) (by decide) (by decide) (by decide) (pc' := 67) rfl fun T424 h424 b424 k424 g424 X424 K424 V424 S424 lt424 ge424 => ?_
                have sz_h424 := K424.1
                have K0_h424 : Keep h0 h424 [] := K0_h0.trans K424 all0
                have V424' : Arv Z h424 b424 k424 .char (0 : Int32) [] (.int (0 : Int32)) := Arv.pad V424 (pad_rep [] (.int (0 : Int32)) 0)
                have Vq : Arv Z h424 b424 k424 .char (Int32.ofNat 0) ((List.replicate 0 (0 : Int32)).map Value.int) (.int (0 : Int32)) := Arv.pad V424 (own_padz 0)
                exact k_retFA X424 d_2_67 rfl rfl rfl rfl K0_h424 ⟨_, rfl, _, _, 0, rfl, Vq, by omega, by unfold own_szs; omega⟩ (by decide) (by decide)
set_option maxRecDepth 65536 in
set_option maxHeartbeats 40000000 in
theorem own_law (l : Launch) (Z : State) (a0 : Array Value) (hw : ∀ d ∈ tables_1, d.before a0 Z = true) {zc : Int32} {fm : Value} {em : Nat} (G : Gl Z zc fm em) (n0 : Nat) (h0 : Heap) (O0 : Old Z n0 h0) (p0 : Int32) (p1 : Int32) (p2 : Int32) (p3 : Int32) (p4 : Int32) (p5 : Int32) :
    MetH l tables_1 Z EL n0 (⟨"com/example/crossgate/crossgate/AgentTokenHandleInPinLaw", "law", "(IIIIII)Z"⟩ : MethodName) code 14 (some .boolean) room_1 #[(.int p0), (.int p1), (.int p2), (.int p3), (.int p4), (.int p5)] h0 [] (fun r v' h' => ∃ w, r = some w ∧ w = .int (1 : Int32) ∧ True) := by
  refine metH (hEL hw) (plainFor_of_name pn_9) O0 (Ls := #[.val (.int p0), .val (.int p1), .val (.int p2), .val (.int p3), .val (.int p4), .val (.int p5), .unset, .unset, .unset, .unset, .unset, .unset, .unset, .unset]) (fun m => by first | rfl | (simp [entryFrame, mkF, argsToLocals, Value.category]; done)) ?_
  intro p e s m below meth c T0 v0 X0 hSf
  have K0_h0 := Keep.refl h0 []
  have n0le := X0.n0le
  obtain ⟨G_cs, G_zc, G_fm, isref_fm, G_assertionsDisabled, G_HI_BYTE_SHIFT, G_LO_BYTE_SHIFT, GS_em, GE_em, GF_em⟩ := id G
  have oz := X0.old.1
  have ltz0 := own_n GE_em.lt
  have tail : ∀ (T : State) (h : Heap) (L : List Loc) (v : Vm) (b6 b9 tk t : Nat) (k9 kt : ClassId) (cd zz dt nn pr : Int32) (bs : List Value) (cs hs : List Int32), own_chs cs → cs.length ≤ 88 → own_chs hs → hs.length = 43 → ((pr = 1 ∧ own_tok cs ∧ hs = cs.take 43) ∨ (pr = 0 ∧ ¬ own_tok cs)) → own_cod cs cd zz bs → WP p l e room_1 (s.setVm v) m #[(.int p0), (.int p1), (.int p2), (.int p3), (.int p4), (.int p5)] below meth c Z "com/example/crossgate/crossgate/AgentTokenHandleInPinLaw" "law" code 14 (some .boolean) n0 (InvH Z a0 EL s v) (Safe Z EL v) T h L 8 800 → Keep h0 h [] → Exa Z h tk "java/lang/String" → Fld Z h tk "java/lang/String" "value" "[B" (.ref t) → Fld Z h tk "java/lang/String" "coder" "B" (.int cd) → Arv Z h t kt .byte zz bs (.int (0 : Int32)) → Arv Z h b9 k9 .char (43 : Int32) (hs.map Value.int) (.int (0 : Int32)) → Run p.tables e below (PH Z EL s below n0 h0 [] (fun r v' h' => ∃ w, r = some w ∧ w = .int (1 : Int32) ∧ True) room_1.cells room_1.slots) T (mkF m 179 #[.val (.int p0), .val (.int p1), .val (.int p2), .val (.int p3), .val (.int p4), .val (.int p5), .val (.ref b6), .val (.int dt), .val (.int nn), .val (.ref b9), .val (.int pr), .val (.ref tk), .unset, .unset] []) := by
    intro T h L v b6 b9 tk t k9 kt cd zz dt nn pr bs cs hs hcs hcl hhs hhl hpr hcod X K f0 f1 f2 f3 f4
    have nle := X.n0le
    have lh0 := K.1
    have lf0 := own_n f0.lt
    have lf3 := own_n f3.lt
    have lf4 := own_n f4.lt
    have oz2 := X.old.1
    have oz3 := X.old.2.1
    refine k_newO X at_179 (w_5 hw) (w_6 hw) (w_7 hw) (by decide) (by decide) (pc' := 182) rfl fun T425 h425 b425 g425 X425 K425 E425 D425 S425 lt425 ge425 => ?_
    have sz_h425 := K425.1
    have K0_h425 : Keep h0 h425 [] := K.trans K425 all0
    have Fn425_coder : Fld Z h425 b425 "java/lang/String" "coder" "B" (.int (0 : Int32)) := D425 (Or.inr (w_31 hw)) (ty := .byte) (by decide)
    have Fn425_value : Fld Z h425 b425 "java/lang/String" "value" "[B" .null := D425 (Or.inr (w_33 hw)) (ty := (.array .byte)) (by decide)
    refine k_dup X425 at_182 rfl (pc' := 183) rfl ?_
    refine k_aload X425 at_183 rfl rfl (pc' := 185) rfl ?_
    have c426 := (f4.keep K425 nin0)
    have ge432 : n0 ≤ b425 := by omega
    refine k_callPNF X425 (y := (⟨"java/lang/String", "<init>", "([C)V"⟩ : MethodName)) at_185 (w_8 hw) (w_9 hw) (w_7 hw) (w_10 hw) (by decide) rfl rfl (argsL := [(.ref b9)]) (rest := [(.ref b425)]) (own_initS l Z a0 hw G n0 h425 X425.old b425 b9 k9 (43 : Int32) (hs.map Value.int) hs rfl (by rw [hhl]; rfl) (by omega) (by omega) (by omega) E425 Fn425_value Fn425_coder c426) rfl pd_31 rfl rfl (by decide) (W := 1) (Nat.le_of_eq rfl) (by decide) (by decide) (by decide) (allS ⟨S425, ge432⟩ all0) (pc' := 188) rfl ?_
    rintro T433 h433 L433 X433 K433 ⟨t_427, kt_428, cd_429, zz_430, bs_431, q433_0, q433_1, q433_2, q433_3, q433_4, q433_5⟩
    have sz_h433 := K433.1
    have K0_h433 : Keep h0 h433 [] := K0_h425.trans K433 (allS (Or.inr (by omega)) all0)
    have lt433_0 := own_n q433_0.lt
    have lt433_1 := own_n q433_1.lt
    have lt433_2 := own_n q433_2.lt
    have lt433_3 := own_n q433_3.lt
    refine k_astore X433 at_188 rfl (Ls' := #[.val (.int p0), .val (.int p1), .val (.int p2), .val (.int p3), .val (.int p4), .val (.int p5), .val (.ref b6), .val (.int dt), .val (.int nn), .val (.ref b9), .val (.int pr), .val (.ref tk), .val (.ref b425), .unset]) rfl (pc' := 190) rfl ?_
    refine k_aload X433 at_190 rfl rfl (pc' := 192) rfl ?_
    rcases hpr with ⟨rfl, htok, hh⟩ | ⟨rfl, hab⟩
    · have c434 := ((f0.keep K425).keep K433)
      have c435 := ((f1.keep K425 nin0).keep K433 (ninS (own_ne (by omega) : tk ≠ b425) nin0))
      have c436 := ((f2.keep K425 nin0).keep K433 (ninS (own_ne (by omega) : tk ≠ b425) nin0))
      have c437 := ((f3.keep K425 nin0).keep K433 (ninS (own_ne (by omega) : t ≠ b425) nin0))
      refine k_callSVF X433 (y := (⟨"com/example/crossgate/crossgate/AgentToken", "handleIn", "(Ljava/lang/String;)Ljava/util/Optional;"⟩ : MethodName)) at_192 (w_34 hw) (w_35 hw) (w_36 hw) (w_37 hw) (by decide) (argsL := [(.ref tk)]) (rest := []) (own_hinP l Z a0 hw G n0 h433 X433.old tk t kt cd zz bs cs hcl hcs htok c434 c435 c436 c437 hcod) rfl pd_32 rfl rfl (by decide) (W := 0) (Nat.le_of_eq rfl) (by decide) (by decide) (by decide) all0 (pc' := 195) rfl ?_
      rintro _ T445 h445 L445 X445 K445 ⟨o9_438, r9_439, t9_440, kt9_441, cd9_442, zz9_443, bs9_444, rfl, q445_0, q445_1, q445_2, q445_3, q445_4, q445_5, q445_6, q445_7, q445_8, q445_9⟩
      have sz_h445 := K445.1
      have K0_h445 : Keep h0 h445 [] := K0_h433.trans K445 all0
      have lt445_0 := own_n q445_0.lt
      have lt445_1 := own_n q445_1.lt
      have lt445_3 := own_n q445_3.lt
      have lt445_4 := own_n q445_4.lt
      have lt445_5 := own_n q445_5.lt
      have lt445_6 := own_n q445_6.lt
      refine k_astore X445 at_195 rfl (Ls' := #[.val (.int p0), .val (.int p1), .val (.int p2), .val (.int p3), .val (.int p4), .val (.int p5), .val (.ref b6), .val (.int dt), .val (.int nn), .val (.ref b9), .val (.int (1 : Int32)), .val (.ref tk), .val (.ref b425), .val (.ref o9_438)]) rfl (pc' := 197) rfl ?_
      refine k_aload X445 at_197 rfl rfl (pc' := 199) rfl ?_
      refine k_callVVF X445 (y := (⟨"java/util/Optional", "isPresent", "()Z"⟩ : MethodName)) at_199 (w_75 hw) (w_76 hw) (w_78 hw) (w_77 hw) (w_72 hw) (w_79 hw) (by decide) (notFace_of_selects (args := #[]) (mvT X445.hZ (w_78 hw))) q445_0 (argsL := []) (rest := []) (own_isP1 l Z a0 hw G n0 h445 X445.old o9_438 r9_439 q445_1) rfl pd_13 rfl rfl (by decide) (W := 0) (Nat.le_of_eq rfl) (by decide) (by decide) (by decide) all0 (pc' := 202) rfl ?_
      rintro _ T447 h447 L447 X447 K447 ⟨rfl, -⟩
      have sz_h447 := K447.1
      have K0_h447 : Keep h0 h447 [] := K0_h445.trans K447 all0
      refine k_iload X447 at_202 rfl (pc' := 204) rfl ?_
      refine k_icmpYes X447 at_204 (by decide) (pc' := 209) (by decide) (by decide) ?_
      refine k_iload X447 at_209 rfl (pc' := 211) rfl ?_
      refine k_ifYes X447 at_211 (by decide) (pc' := 216) (by decide) (by decide) ?_
      refine k_aload X447 at_216 rfl rfl (pc' := 218) rfl ?_
      have c449 := (q445_1.keep K447 nin0)
      have c450 := (q445_0.keep K447)
      refine k_callVVF X447 (y := (⟨"java/util/Optional", "get", "()Ljava/lang/Object;"⟩ : MethodName)) at_218 (w_182 hw) (w_183 hw) (w_185 hw) (w_184 hw) (w_72 hw) (w_186 hw) (by decide) (notFace_of_selects (args := #[]) (mvT X447.hZ (w_185 hw))) c450 (argsL := []) (rest := []) (own_optG l Z a0 hw G n0 h447 X447.old o9_438 r9_439 c449) rfl pd_33 rfl rfl (by decide) (W := 0) (Nat.le_of_eq rfl) (by decide) (by decide) (by decide) all0 (pc' := 221) rfl ?_
      rintro _ T451 h451 L451 X451 K451 ⟨rfl, -⟩
      have sz_h451 := K451.1
      have K0_h451 : Keep h0 h451 [] := K0_h447.trans K451 all0
      have c455 := ((q445_3.keep K447).keep K451)
      refine k_castY X451 at_221 (w_5 hw) (Ins.self c455) (pc' := 224) rfl fun T453 X454 => ?_
      refine k_aload X454 at_224 rfl rfl (pc' := 226) rfl ?_
      have c456 := ((q445_4.keep K447 nin0).keep K451 nin0)
      have c457 := ((q445_5.keep K447 nin0).keep K451 nin0)
      have c458 := ((q445_6.keep K447 nin0).keep K451 nin0)
      have c459 := (((q433_0.keep K445).keep K447).keep K451)
      have c460 := (((q433_2.keep K445 nin0).keep K447 nin0).keep K451 nin0)
      have c461 := (((q433_1.keep K445 nin0).keep K447 nin0).keep K451 nin0)
      have c462 := (((q433_3.keep K445 nin0).keep K447 nin0).keep K451 nin0)
      refine k_callVVF X454 (y := (⟨"java/lang/String", "equals", "(Ljava/lang/Object;)Z"⟩ : MethodName)) at_226 (w_187 hw) (w_188 hw) (w_190 hw) (w_189 hw) (w_7 hw) (w_191 hw) (by decide) (notFace_of_selects (args := #[]) (mvT X454.hZ (w_190 hw))) c455 (argsL := [(.ref b425)]) (rest := []) (own_eq l Z a0 hw G n0 h451 X454.old r9_439 b425 t9_440 kt9_441 cd9_442 zz9_443 bs9_444 (cs.take 43) t_427 kt_428 cd_429 zz_430 bs_431 hs (by rw [List.length_take]; omega) (by omega) (own_chs_take hcs 43) hhs c455 c456 c457 c458 q445_9 c459 c460 c461 c462 q433_5) rfl pd_34 rfl rfl (by decide) (W := 0) (Nat.le_of_eq rfl) (by decide) (by decide) (by decide) all0 (pc' := 229) rfl ?_
      rintro _ T463 h463 L463 X463 K463 ⟨rfl, -⟩
      have sz_h463 := K463.1
      have K0_h463 : Keep h0 h463 [] := K0_h451.trans K463 all0
      have he : (own_eqv (cs.take 43) hs) = 1 := if_pos hh.symm
      exact k_retHN X463 (w := (own_eqv (cs.take 43) hs)) at_229 (t := .boolean) rfl (by simp) (by rw [he]; decide) K0_h463 (fun v' C' => ⟨_, rfl, by rw [he], trivial⟩) (by decide) (by decide)
    · have c465 := ((f0.keep K425).keep K433)
      have c466 := ((f1.keep K425 nin0).keep K433 (ninS (own_ne (by omega) : tk ≠ b425) nin0))
      have c467 := ((f2.keep K425 nin0).keep K433 (ninS (own_ne (by omega) : tk ≠ b425) nin0))
      have c468 := ((f3.keep K425 nin0).keep K433 (ninS (own_ne (by omega) : t ≠ b425) nin0))
      refine k_callSVF X433 (y := (⟨"com/example/crossgate/crossgate/AgentToken", "handleIn", "(Ljava/lang/String;)Ljava/util/Optional;"⟩ : MethodName)) at_192 (w_34 hw) (w_35 hw) (w_36 hw) (w_37 hw) (by decide) (argsL := [(.ref tk)]) (rest := []) (own_hinA l Z a0 hw G n0 h433 X433.old tk t kt cd zz bs cs hcl hcs hab c465 c466 c467 c468 hcod) rfl pd_32 rfl rfl (by decide) (W := 0) (Nat.le_of_eq rfl) (by decide) (by decide) (by decide) all0 (pc' := 195) rfl ?_
      rintro _ T469 h469 L469 X469 K469 ⟨rfl, -⟩
      have sz_h469 := K469.1
      have K0_h469 : Keep h0 h469 [] := K0_h433.trans K469 all0
      refine k_astore X469 at_195 rfl (Ls' := #[.val (.int p0), .val (.int p1), .val (.int p2), .val (.int p3), .val (.int p4), .val (.int p5), .val (.ref b6), .val (.int dt), .val (.int nn), .val (.ref b9), .val (.int (0 : Int32)), .val (.ref tk), .val (.ref b425), .val (.ref em)]) rfl (pc' := 197) rfl ?_
      refine k_aload X469 at_197 rfl rfl (pc' := 199) rfl ?_
      refine k_callVVF X469 (y := (⟨"java/util/Optional", "isPresent", "()Z"⟩ : MethodName)) at_199 (w_75 hw) (w_76 hw) (w_78 hw) (w_77 hw) (w_72 hw) (w_79 hw) (by decide) (notFace_of_selects (args := #[]) (mvT X469.hZ (w_78 hw))) (GE_em.ext X469.old.2) (argsL := []) (rest := []) (own_isP0 l Z a0 hw G n0 h469 X469.old em (GF_em.ext X469.old.2)) rfl pd_13 rfl rfl (by decide) (W := 0) (Nat.le_of_eq rfl) (by decide) (by decide) (by decide) all0 (pc' := 202) rfl ?_
      rintro _ T471 h471 L471 X471 K471 ⟨rfl, -⟩
      have sz_h471 := K471.1
      have K0_h471 : Keep h0 h471 [] := K0_h469.trans K471 all0
      refine k_iload X471 at_202 rfl (pc' := 204) rfl ?_
      refine k_icmpYes X471 at_204 (by decide) (pc' := 209) (by decide) (by decide) ?_
      refine k_iload X471 at_209 rfl (pc' := 211) rfl ?_
      refine k_ifNo X471 at_211 (by decide) (pc' := 214) rfl ?_
      refine k_iconst X471 at_214 (w := (1 : Int32)) rfl (pc' := 215) rfl ?_
      exact k_retHN X471 (w := (1 : Int32)) at_215 (t := .boolean) rfl (by simp) rfl K0_h471 (fun v' C' => ⟨_, rfl, rfl, trivial⟩) (by decide) (by decide)
  obtain ⟨ca, hca⟩ : ∃ z, p1.toUInt32.toUInt16.toUInt32.toInt32 = z := ⟨_, rfl⟩
  have rca : ¬ ca < 0 ∧ ¬ 65535 < ca := hca ▸ own_i2c_rng _
  obtain ⟨cb, hcb⟩ : ∃ z, p2.toUInt32.toUInt16.toUInt32.toInt32 = z := ⟨_, rfl⟩
  have rcb : ¬ cb < 0 ∧ ¬ 65535 < cb := hcb ▸ own_i2c_rng _
  obtain ⟨cc, hcc⟩ : ∃ z, p3.toUInt32.toUInt16.toUInt32.toInt32 = z := ⟨_, rfl⟩
  have rcc : ¬ cc < 0 ∧ ¬ 65535 < cc := hcc ▸ own_i2c_rng _
  obtain ⟨ce, hce⟩ : ∃ z, p4.toUInt32.toUInt16.toUInt32.toInt32 = z := ⟨_, rfl⟩
  have rce : ¬ ce < 0 ∧ ¬ 65535 < ce := hce ▸ own_i2c_rng _
  obtain ⟨cf, hcf⟩ : ∃ z, p5.toUInt32.toUInt16.toUInt32.toInt32 = z := ⟨_, rfl⟩
  have rcf : ¬ cf < 0 ∧ ¬ 65535 < cf := hcf ▸ own_i2c_rng _
  refine k_iloadN X0 at_0 rfl (pc' := 1) rfl ?_
  refine k_bipush X0 at_1 (w := (7 : Int32)) rfl (pc' := 3) rfl ?_
  refine k_iand X0 at_3 (w := (p0 &&& (7 : Int32))) rfl (pc' := 4) rfl ?_
  refine k_callSVF X0 (y := (⟨"com/example/crossgate/crossgate/AgentTokenHandleInPinLaw", "pick", "(I)[C"⟩ : MethodName)) at_4 (w_0 hw) (w_1 hw) (w_2 hw) (w_3 hw) (by decide) (argsL := [(.int (p0 &&& (7 : Int32)))]) (rest := []) (own_pick l Z a0 hw G n0 h0 X0.old (p0 &&& (7 : Int32)) ) rfl pd_35 rfl rfl (by decide) (W := 0) (Nat.le_of_eq rfl) (by decide) (by decide) (by decide) all0 (pc' := 7) rfl ?_
  rintro _ T476 h476 L476 X476 K476 ⟨t_473, kt_474, n_475, rfl, q476_0, q476_1, q476_2⟩
  have sz_h476 := K476.1
  have K0_h476 : Keep h0 h476 [] := K0_h0.trans K476 all0
  have lt476_0 := own_n q476_0.lt
  rcases q476_2 with rfl | rfl | rfl | rfl | rfl | rfl | rfl
  · refine k_astore X476 at_7 rfl (Ls' := #[.val (.int p0), .val (.int p1), .val (.int p2), .val (.int p3), .val (.int p4), .val (.int p5), .val (.ref t_473), .unset, .unset, .unset, .unset, .unset, .unset, .unset]) rfl (pc' := 9) rfl ?_
    refine k_iloadN X476 at_9 rfl (pc' := 10) rfl ?_
    refine k_iconst X476 at_10 (w := (3 : Int32)) rfl (pc' := 11) rfl ?_
    refine k_iushr X476 at_11 (w := ((p0.toUInt32 >>> ((3 : Int32) &&& 31).toUInt32).toInt32)) rfl (pc' := 12) rfl ?_
    refine k_iconst X476 at_12 (w := (1 : Int32)) rfl (pc' := 13) rfl ?_
    refine k_iand X476 at_13 (w := (((p0.toUInt32 >>> ((3 : Int32) &&& 31).toUInt32).toInt32) &&& (1 : Int32))) rfl (pc' := 14) rfl ?_
    by_cases hc478 : (((p0.toUInt32 >>> ((3 : Int32) &&& 31).toUInt32).toInt32) &&& (1 : Int32)) = (0 : Int32)
    · refine k_ifYes X476 at_14 ((if0 _ _).trans (teq hc478).1) (pc' := 21) (by decide) (by decide) ?_
      refine k_iconst X476 at_21 (w := (0 : Int32)) rfl (pc' := 22) rfl ?_
      refine k_istore X476 at_22 (Ls' := #[.val (.int p0), .val (.int p1), .val (.int p2), .val (.int p3), .val (.int p4), .val (.int p5), .val (.ref t_473), .val (.int (0 : Int32)), .unset, .unset, .unset, .unset, .unset, .unset]) rfl (pc' := 24) rfl ?_
      refine k_aload X476 at_24 rfl rfl (pc' := 26) rfl ?_
      refine k_arlen X476 at_26 q476_0 (pc' := 27) rfl ?_
      refine k_istore X476 at_27 (Ls' := #[.val (.int p0), .val (.int p1), .val (.int p2), .val (.int p3), .val (.int p4), .val (.int p5), .val (.ref t_473), .val (.int (0 : Int32)), .val (.int (87 : Int32)), .unset, .unset, .unset, .unset, .unset]) rfl (pc' := 29) rfl ?_
      refine k_iload X476 at_29 rfl (pc' := 31) rfl ?_
      refine k_ifNo X476 at_31 (by decide) (pc' := 34) rfl ?_
      refine k_aload X476 at_34 rfl rfl (pc' := 36) rfl ?_
      refine k_iload X476 at_36 rfl (pc' := 38) rfl ?_
      refine k_iconst X476 at_38 (w := (1 : Int32)) rfl (pc' := 39) rfl ?_
      refine k_isub X476 at_39 (w := (86 : Int32)) (by decide) (pc' := 40) rfl ?_
      refine k_iload X476 at_40 rfl (pc' := 42) rfl ?_
      refine k_i2c X476 at_42 (w := cf) hcf (pc' := 43) rfl ?_
      have ge480 : n0 ≤ t_473 := by omega
      refine k_castore X476 (w := cf) (86) at_43 q476_0 (by decide) (by decide) rfl (by simp) (own_i2c_id rcf.1 rcf.2) (vs' := (((List.replicate 87 (0 : Int32)).set 86 cf).map Value.int)) (own_mset _ _ _) (X476.sfA q476_0) ge480 (pc' := 44) rfl fun T479 h479 L479 X479 K479 V479 => ?_
      have sz_h479 := K479.1
      have K0_h479 : Keep h0 h479 [] := K0_h476.trans K479 (allS (Or.inr (by omega)) all0)
      refine k_iload X479 at_44 rfl (pc' := 46) rfl ?_
      refine k_ifNo X479 at_46 (by decide) (pc' := 49) rfl ?_
      refine k_aload X479 at_49 rfl rfl (pc' := 51) rfl ?_
      refine k_iconst X479 at_51 (w := (0 : Int32)) rfl (pc' := 52) rfl ?_
      refine k_iloadN X479 at_52 rfl (pc' := 53) rfl ?_
      refine k_i2c X479 at_53 (w := ca) hca (pc' := 54) rfl ?_
      have ge482 : n0 ≤ t_473 := by omega
      refine k_castore X479 (w := ca) (0) at_54 V479 (by decide) (by decide) rfl (by simp) (own_i2c_id rca.1 rca.2) (vs' := ((((List.replicate 87 (0 : Int32)).set 86 cf).set 0 ca).map Value.int)) (own_mset _ _ _) (X479.sfA V479) ge482 (pc' := 55) rfl fun T481 h481 L481 X481 K481 V481 => ?_
      have sz_h481 := K481.1
      have K0_h481 : Keep h0 h481 [] := K0_h479.trans K481 (allS (Or.inr (by omega)) all0)
      refine k_iload X481 at_55 rfl (pc' := 57) rfl ?_
      refine k_bipush X481 at_57 (w := (42 : Int32)) rfl (pc' := 59) rfl ?_
      refine k_icmpNo X481 at_59 (by decide) (pc' := 62) rfl ?_
      refine k_aload X481 at_62 rfl rfl (pc' := 64) rfl ?_
      refine k_bipush X481 at_64 (w := (42 : Int32)) rfl (pc' := 66) rfl ?_
      refine k_iloadN X481 at_66 rfl (pc' := 67) rfl ?_
      refine k_i2c X481 at_67 (w := cb) hcb (pc' := 68) rfl ?_
      have ge484 : n0 ≤ t_473 := by omega
      refine k_castore X481 (w := cb) (42) at_68 V481 (by decide) (by decide) rfl (by simp) (own_i2c_id rcb.1 rcb.2) (vs' := (((((List.replicate 87 (0 : Int32)).set 86 cf).set 0 ca).set 42 cb).map Value.int)) (own_mset _ _ _) (X481.sfA V481) ge484 (pc' := 69) rfl fun T483 h483 L483 X483 K483 V483 => ?_
      have sz_h483 := K483.1
      have K0_h483 : Keep h0 h483 [] := K0_h481.trans K483 (allS (Or.inr (by omega)) all0)
      refine k_iload X483 at_69 rfl (pc' := 71) rfl ?_
      refine k_bipush X483 at_71 (w := (43 : Int32)) rfl (pc' := 73) rfl ?_
      refine k_icmpNo X483 at_73 (by decide) (pc' := 76) rfl ?_
      refine k_aload X483 at_76 rfl rfl (pc' := 78) rfl ?_
      refine k_bipush X483 at_78 (w := (43 : Int32)) rfl (pc' := 80) rfl ?_
      refine k_iload X483 at_80 rfl (pc' := 82) rfl ?_
      refine k_ifYes X483 at_82 (by decide) (pc' := 90) (by decide) (by decide) ?_
      refine k_iloadN X483 at_90 rfl (pc' := 91) rfl ?_
      refine k_i2c X483 at_91 (w := cc) hcc (pc' := 92) rfl ?_
      have ge486 : n0 ≤ t_473 := by omega
      refine k_castore X483 (w := cc) (43) at_92 V483 (by decide) (by decide) rfl (by simp) (own_i2c_id rcc.1 rcc.2) (vs' := ((((((List.replicate 87 (0 : Int32)).set 86 cf).set 0 ca).set 42 cb).set 43 cc).map Value.int)) (own_mset _ _ _) (X483.sfA V483) ge486 (pc' := 93) rfl fun T485 h485 L485 X485 K485 V485 => ?_
      have sz_h485 := K485.1
      have K0_h485 : Keep h0 h485 [] := K0_h483.trans K485 (allS (Or.inr (by omega)) all0)
      refine k_iload X485 at_93 rfl (pc' := 95) rfl ?_
      refine k_bipush X485 at_95 (w := (44 : Int32)) rfl (pc' := 97) rfl ?_
      refine k_icmpNo X485 at_97 (by decide) (pc' := 100) rfl ?_
      refine k_aload X485 at_100 rfl rfl (pc' := 102) rfl ?_
      refine k_bipush X485 at_102 (w := (44 : Int32)) rfl (pc' := 104) rfl ?_
      refine k_iload X485 at_104 rfl (pc' := 106) rfl ?_
      refine k_i2c X485 at_106 (w := ce) hce (pc' := 107) rfl ?_
      have ge488 : n0 ≤ t_473 := by omega
      refine k_castore X485 (w := ce) (44) at_107 V485 (by decide) (by decide) rfl (by simp) (own_i2c_id rce.1 rce.2) (vs' := (((((((List.replicate 87 (0 : Int32)).set 86 cf).set 0 ca).set 42 cb).set 43 cc).set 44 ce).map Value.int)) (own_mset _ _ _) (X485.sfA V485) ge488 (pc' := 108) rfl fun T487 h487 L487 X487 K487 V487 => ?_
      have sz_h487 := K487.1
      have K0_h487 : Keep h0 h487 [] := K0_h485.trans K487 (allS (Or.inr (by omega)) all0)
      refine k_bipush X487 at_108 (w := (43 : Int32)) rfl (pc' := 110) rfl ?_
      refine k_newP X487 at_110 (w_4 hw) (by decide) (cap := 43) (by decide) (by decide) (by decide) (by decide) (pc' := 112) rfl fun T489 h489 b489 k489 g489 X489 K489 V489 S489 lt489 ge489 => ?_
      have sz_h489 := K489.1
      have K0_h489 : Keep h0 h489 [] := K0_h487.trans K489 all0
      have Vh : Arv Z h489 b489 k489 .char (43 : Int32) ((List.replicate 43 (0 : Int32)).map Value.int) (.int (0 : Int32)) := Arv.pad V489 (own_padz 43)
      have hCS : own_chs ((((((List.replicate 87 (0 : Int32)).set 86 cf).set 0 ca).set 42 cb).set 43 cc).set 44 ce) := (own_chs_set (own_chs_set (own_chs_set (own_chs_set (own_chs_set (own_chs_rep 87) rcf) rca) rcb) rcc) rce)
      have lCS : ((((((List.replicate 87 (0 : Int32)).set 86 cf).set 0 ca).set 42 cb).set 43 cc).set 44 ce).length = 87 := by simp
      refine k_astore X489 at_112 rfl (Ls' := #[.val (.int p0), .val (.int p1), .val (.int p2), .val (.int p3), .val (.int p4), .val (.int p5), .val (.ref t_473), .val (.int (0 : Int32)), .val (.int (87 : Int32)), .val (.ref b489), .unset, .unset, .unset, .unset]) rfl (pc' := 114) rfl ?_
      refine k_iload X489 at_114 rfl (pc' := 116) rfl ?_
      refine k_ifNo X489 at_116 (by decide) (pc' := 119) rfl ?_
      refine k_aload X489 at_119 rfl rfl (pc' := 121) rfl ?_
      refine k_iconst X489 at_121 (w := (0 : Int32)) rfl (pc' := 122) rfl ?_
      refine k_aload X489 at_122 rfl rfl (pc' := 124) rfl ?_
      refine k_iconst X489 at_124 (w := (0 : Int32)) rfl (pc' := 125) rfl ?_
      have rg0 : ¬ (((((((List.replicate 87 (0 : Int32)).set 86 cf).set 0 ca).set 42 cb).set 43 cc).set 44 ce).getD 0 0) < 0 ∧ ¬ 65535 < (((((((List.replicate 87 (0 : Int32)).set 86 cf).set 0 ca).set 42 cb).set 43 cc).set 44 ce).getD 0 0) := own_chs_at hCS (by rw [lCS]; decide)
      have c490 := (V487.keep K489 nin0)
      refine k_caload X489 at_125 c490 (by decide) (by decide) (v := (.int (((((((List.replicate 87 (0 : Int32)).set 86 cf).set 0 ca).set 42 cb).set 43 cc).set 44 ce).getD 0 0))) (own_getc' (i := 0) ((((((List.replicate 87 (0 : Int32)).set 86 cf).set 0 ca).set 42 cb).set 43 cc).set 44 ce) (by decide)) (pc' := 126) rfl ?_
      have ge492 : n0 ≤ b489 := by omega
      refine k_castore X489 (w := (((((((List.replicate 87 (0 : Int32)).set 86 cf).set 0 ca).set 42 cb).set 43 cc).set 44 ce).getD 0 0)) (0) at_126 Vh (by decide) (by decide) rfl (by simp) (own_i2c_id rg0.1 rg0.2) (vs' := (((List.replicate 43 (0 : Int32)).set 0 (((((((List.replicate 87 (0 : Int32)).set 86 cf).set 0 ca).set 42 cb).set 43 cc).set 44 ce).getD 0 0)).map Value.int)) (own_mset _ _ _) S489 ge492 (pc' := 127) rfl fun T491 h491 L491 X491 K491 V491 => ?_
      have sz_h491 := K491.1
      have K0_h491 : Keep h0 h491 [] := K0_h489.trans K491 (allS (Or.inr (by omega)) all0)
      refine k_iload X491 at_127 rfl (pc' := 129) rfl ?_
      refine k_bipush X491 at_129 (w := (42 : Int32)) rfl (pc' := 131) rfl ?_
      refine k_icmpNo X491 at_131 (by decide) (pc' := 134) rfl ?_
      refine k_aload X491 at_134 rfl rfl (pc' := 136) rfl ?_
      refine k_bipush X491 at_136 (w := (42 : Int32)) rfl (pc' := 138) rfl ?_
      refine k_aload X491 at_138 rfl rfl (pc' := 140) rfl ?_
      refine k_bipush X491 at_140 (w := (42 : Int32)) rfl (pc' := 142) rfl ?_
      have rg42 : ¬ (((((((List.replicate 87 (0 : Int32)).set 86 cf).set 0 ca).set 42 cb).set 43 cc).set 44 ce).getD 42 0) < 0 ∧ ¬ 65535 < (((((((List.replicate 87 (0 : Int32)).set 86 cf).set 0 ca).set 42 cb).set 43 cc).set 44 ce).getD 42 0) := own_chs_at hCS (by rw [lCS]; decide)
      have c493 := (c490.keep K491 (ninS (own_ne (by omega) : t_473 ≠ b489) nin0))
      refine k_caload X491 at_142 c493 (by decide) (by decide) (v := (.int (((((((List.replicate 87 (0 : Int32)).set 86 cf).set 0 ca).set 42 cb).set 43 cc).set 44 ce).getD 42 0))) (own_getc' (i := 42) ((((((List.replicate 87 (0 : Int32)).set 86 cf).set 0 ca).set 42 cb).set 43 cc).set 44 ce) (by decide)) (pc' := 143) rfl ?_
      have c495 := (X489.sf K491 (allS ⟨S489, ge492⟩ all0) S489)
      have ge496 : n0 ≤ b489 := by omega
      refine k_castore X491 (w := (((((((List.replicate 87 (0 : Int32)).set 86 cf).set 0 ca).set 42 cb).set 43 cc).set 44 ce).getD 42 0)) (42) at_143 V491 (by decide) (by decide) rfl (by simp) (own_i2c_id rg42.1 rg42.2) (vs' := ((((List.replicate 43 (0 : Int32)).set 0 (((((((List.replicate 87 (0 : Int32)).set 86 cf).set 0 ca).set 42 cb).set 43 cc).set 44 ce).getD 0 0)).set 42 (((((((List.replicate 87 (0 : Int32)).set 86 cf).set 0 ca).set 42 cb).set 43 cc).set 44 ce).getD 42 0)).map Value.int)) (own_mset _ _ _) c495 ge496 (pc' := 144) rfl fun T494 h494 L494 X494 K494 V494 => ?_
      have sz_h494 := K494.1
      have K0_h494 : Keep h0 h494 [] := K0_h491.trans K494 (allS (Or.inr (by omega)) all0)
      have hHS : own_chs (((List.replicate 43 (0 : Int32)).set 0 (((((((List.replicate 87 (0 : Int32)).set 86 cf).set 0 ca).set 42 cb).set 43 cc).set 44 ce).getD 0 0)).set 42 (((((((List.replicate 87 (0 : Int32)).set 86 cf).set 0 ca).set 42 cb).set 43 cc).set 44 ce).getD 42 0)) := (own_chs_set (own_chs_set (own_chs_rep 43) rg0) rg42)
      have lHS : (((List.replicate 43 (0 : Int32)).set 0 (((((((List.replicate 87 (0 : Int32)).set 86 cf).set 0 ca).set 42 cb).set 43 cc).set 44 ce).getD 0 0)).set 42 (((((((List.replicate 87 (0 : Int32)).set 86 cf).set 0 ca).set 42 cb).set 43 cc).set 44 ce).getD 42 0)).length = 43 := by simp
      refine k_iload X494 at_144 rfl (pc' := 146) rfl ?_
      refine k_bipush X494 at_146 (w := (87 : Int32)) rfl (pc' := 148) rfl ?_
      refine k_icmpNo X494 at_148 (by decide) (pc' := 151) rfl ?_
      refine k_aload X494 at_151 rfl rfl (pc' := 153) rfl ?_
      refine k_bipush X494 at_153 (w := (43 : Int32)) rfl (pc' := 155) rfl ?_
      have c497 := (c493.keep K494 (ninS (own_ne (by omega) : t_473 ≠ b489) nin0))
      refine k_caload X494 at_155 c497 (by decide) (by decide) (v := (.int (((((((List.replicate 87 (0 : Int32)).set 86 cf).set 0 ca).set 42 cb).set 43 cc).set 44 ce).getD 43 0))) (own_getc' (i := 43) ((((((List.replicate 87 (0 : Int32)).set 86 cf).set 0 ca).set 42 cb).set 43 cc).set 44 ce) (by decide)) (pc' := 156) rfl ?_
      refine k_bipush X494 at_156 (w := (46 : Int32)) rfl (pc' := 158) rfl ?_
      have hz : ∀ j, j < 43 → j ≠ 0 → j ≠ 42 → ((((((List.replicate 87 (0 : Int32)).set 86 cf).set 0 ca).set 42 cb).set 43 cc).set 44 ce).getD j 0 = 0 := fun j h1 h2 h3 => by rw [own_gset (by omega), own_gset (by omega), own_gset (by omega), own_gset (by omega), own_gset (by omega), own_grep]
      by_cases hc498 : (((((((List.replicate 87 (0 : Int32)).set 86 cf).set 0 ca).set 42 cb).set 43 cc).set 44 ce).getD 43 0) = (46 : Int32)
      · refine k_icmpNo X494 at_158 (teq hc498).2 (pc' := 161) rfl ?_
        refine k_iconst X494 at_161 (w := (1 : Int32)) rfl (pc' := 162) rfl ?_
        refine k_goto X494 at_162 (pc' := 166) (by decide) (by decide) ?_
        refine k_istore X494 at_166 (Ls' := #[.val (.int p0), .val (.int p1), .val (.int p2), .val (.int p3), .val (.int p4), .val (.int p5), .val (.ref t_473), .val (.int (0 : Int32)), .val (.int (87 : Int32)), .val (.ref b489), .val (.int (1 : Int32)), .unset, .unset, .unset]) rfl (pc' := 168) rfl ?_
        refine k_newO X494 at_168 (w_5 hw) (w_6 hw) (w_7 hw) (by decide) (by decide) (pc' := 171) rfl fun T499 h499 b499 g499 X499 K499 E499 D499 S499 lt499 ge499 => ?_
        have sz_h499 := K499.1
        have K0_h499 : Keep h0 h499 [] := K0_h494.trans K499 all0
        have Fn499_coder : Fld Z h499 b499 "java/lang/String" "coder" "B" (.int (0 : Int32)) := D499 (Or.inr (w_31 hw)) (ty := .byte) (by decide)
        have Fn499_value : Fld Z h499 b499 "java/lang/String" "value" "[B" .null := D499 (Or.inr (w_33 hw)) (ty := (.array .byte)) (by decide)
        refine k_dup X499 at_171 rfl (pc' := 172) rfl ?_
        refine k_aload X499 at_172 rfl rfl (pc' := 174) rfl ?_
        have c500 := (c497.keep K499 nin0)
        have ge506 : n0 ≤ b499 := by omega
        refine k_callPNF X499 (y := (⟨"java/lang/String", "<init>", "([C)V"⟩ : MethodName)) at_174 (w_8 hw) (w_9 hw) (w_7 hw) (w_10 hw) (by decide) rfl rfl (argsL := [(.ref t_473)]) (rest := [(.ref b499)]) (own_initS l Z a0 hw G n0 h499 X499.old b499 t_473 kt_474 (87 : Int32) (((((((List.replicate 87 (0 : Int32)).set 86 cf).set 0 ca).set 42 cb).set 43 cc).set 44 ce).map Value.int) ((((((List.replicate 87 (0 : Int32)).set 86 cf).set 0 ca).set 42 cb).set 43 cc).set 44 ce) rfl (by rw [lCS]; rfl) (by rw [lCS]; decide) (by rw [lCS]; decide) (by omega) E499 Fn499_value Fn499_coder c500) rfl pd_31 rfl rfl (by decide) (W := 1) (Nat.le_of_eq rfl) (by decide) (by decide) (by decide) (allS ⟨S499, ge506⟩ all0) (pc' := 177) rfl ?_
        rintro T507 h507 L507 X507 K507 ⟨t_501, kt_502, cd_503, zz_504, bs_505, q507_0, q507_1, q507_2, q507_3, q507_4, q507_5⟩
        have sz_h507 := K507.1
        have K0_h507 : Keep h0 h507 [] := K0_h499.trans K507 (allS (Or.inr (by omega)) all0)
        have lt507_0 := own_n q507_0.lt
        have lt507_1 := own_n q507_1.lt
        have lt507_2 := own_n q507_2.lt
        have lt507_3 := own_n q507_3.lt
        refine k_astore X507 at_177 rfl (Ls' := #[.val (.int p0), .val (.int p1), .val (.int p2), .val (.int p3), .val (.int p4), .val (.int p5), .val (.ref t_473), .val (.int (0 : Int32)), .val (.int (87 : Int32)), .val (.ref b489), .val (.int (1 : Int32)), .val (.ref b499), .unset, .unset]) rfl (pc' := 179) rfl ?_
        have c508 := ((V494.keep K499 nin0).keep K507 (ninS (own_ne (by omega) : b489 ≠ b499) nin0))
        exact tail _ _ _ _ _ _ _ _ _ _ _ _ _ _ _ _ ((((((List.replicate 87 (0 : Int32)).set 86 cf).set 0 ca).set 42 cb).set 43 cc).set 44 ce) (((List.replicate 43 (0 : Int32)).set 0 (((((((List.replicate 87 (0 : Int32)).set 86 cf).set 0 ca).set 42 cb).set 43 cc).set 44 ce).getD 0 0)).set 42 (((((((List.replicate 87 (0 : Int32)).set 86 cf).set 0 ca).set 42 cb).set 43 cc).set 44 ce).getD 42 0)) hCS (by rw [lCS]; decide) hHS lHS (Or.inl ⟨rfl, ⟨lCS, hc498⟩, own_h43 hz (by rw [lCS]; decide)⟩) q507_5 (X507.up (by decide) (by decide)) K0_h507 q507_0 q507_2 q507_1 q507_3 c508
      · refine k_icmpYes X494 at_158 (feq hc498).2 (pc' := 165) (by decide) (by decide) ?_
        refine k_iconst X494 at_165 (w := (0 : Int32)) rfl (pc' := 166) rfl ?_
        refine k_istore X494 at_166 (Ls' := #[.val (.int p0), .val (.int p1), .val (.int p2), .val (.int p3), .val (.int p4), .val (.int p5), .val (.ref t_473), .val (.int (0 : Int32)), .val (.int (87 : Int32)), .val (.ref b489), .val (.int (0 : Int32)), .unset, .unset, .unset]) rfl (pc' := 168) rfl ?_
        refine k_newO X494 at_168 (w_5 hw) (w_6 hw) (w_7 hw) (by decide) (by decide) (pc' := 171) rfl fun T509 h509 b509 g509 X509 K509 E509 D509 S509 lt509 ge509 => ?_
        have sz_h509 := K509.1
        have K0_h509 : Keep h0 h509 [] := K0_h494.trans K509 all0
        have Fn509_coder : Fld Z h509 b509 "java/lang/String" "coder" "B" (.int (0 : Int32)) := D509 (Or.inr (w_31 hw)) (ty := .byte) (by decide)
        have Fn509_value : Fld Z h509 b509 "java/lang/String" "value" "[B" .null := D509 (Or.inr (w_33 hw)) (ty := (.array .byte)) (by decide)
        refine k_dup X509 at_171 rfl (pc' := 172) rfl ?_
        refine k_aload X509 at_172 rfl rfl (pc' := 174) rfl ?_
        have c510 := (c497.keep K509 nin0)
        have ge516 : n0 ≤ b509 := by omega
        refine k_callPNF X509 (y := (⟨"java/lang/String", "<init>", "([C)V"⟩ : MethodName)) at_174 (w_8 hw) (w_9 hw) (w_7 hw) (w_10 hw) (by decide) rfl rfl (argsL := [(.ref t_473)]) (rest := [(.ref b509)]) (own_initS l Z a0 hw G n0 h509 X509.old b509 t_473 kt_474 (87 : Int32) (((((((List.replicate 87 (0 : Int32)).set 86 cf).set 0 ca).set 42 cb).set 43 cc).set 44 ce).map Value.int) ((((((List.replicate 87 (0 : Int32)).set 86 cf).set 0 ca).set 42 cb).set 43 cc).set 44 ce) rfl (by rw [lCS]; rfl) (by rw [lCS]; decide) (by rw [lCS]; decide) (by omega) E509 Fn509_value Fn509_coder c510) rfl pd_31 rfl rfl (by decide) (W := 1) (Nat.le_of_eq rfl) (by decide) (by decide) (by decide) (allS ⟨S509, ge516⟩ all0) (pc' := 177) rfl ?_
        rintro T517 h517 L517 X517 K517 ⟨t_511, kt_512, cd_513, zz_514, bs_515, q517_0, q517_1, q517_2, q517_3, q517_4, q517_5⟩
        have sz_h517 := K517.1
        have K0_h517 : Keep h0 h517 [] := K0_h509.trans K517 (allS (Or.inr (by omega)) all0)
        have lt517_0 := own_n q517_0.lt
        have lt517_1 := own_n q517_1.lt
        have lt517_2 := own_n q517_2.lt
        have lt517_3 := own_n q517_3.lt
        refine k_astore X517 at_177 rfl (Ls' := #[.val (.int p0), .val (.int p1), .val (.int p2), .val (.int p3), .val (.int p4), .val (.int p5), .val (.ref t_473), .val (.int (0 : Int32)), .val (.int (87 : Int32)), .val (.ref b489), .val (.int (0 : Int32)), .val (.ref b509), .unset, .unset]) rfl (pc' := 179) rfl ?_
        have c518 := ((V494.keep K509 nin0).keep K517 (ninS (own_ne (by omega) : b489 ≠ b509) nin0))
        exact tail _ _ _ _ _ _ _ _ _ _ _ _ _ _ _ _ ((((((List.replicate 87 (0 : Int32)).set 86 cf).set 0 ca).set 42 cb).set 43 cc).set 44 ce) (((List.replicate 43 (0 : Int32)).set 0 (((((((List.replicate 87 (0 : Int32)).set 86 cf).set 0 ca).set 42 cb).set 43 cc).set 44 ce).getD 0 0)).set 42 (((((((List.replicate 87 (0 : Int32)).set 86 cf).set 0 ca).set 42 cb).set 43 cc).set 44 ce).getD 42 0)) hCS (by rw [lCS]; decide) hHS lHS (Or.inr ⟨rfl, fun z => hc498 z.2⟩) q517_5 (X517.up (by decide) (by decide)) K0_h517 q517_0 q517_2 q517_1 q517_3 c518
    · refine k_ifNo X476 at_14 ((if0 _ _).trans (feq hc478).1) (pc' := 17) rfl ?_
      refine k_iconst X476 at_17 (w := (1 : Int32)) rfl (pc' := 18) rfl ?_
      refine k_goto X476 at_18 (pc' := 22) (by decide) (by decide) ?_
      refine k_istore X476 at_22 (Ls' := #[.val (.int p0), .val (.int p1), .val (.int p2), .val (.int p3), .val (.int p4), .val (.int p5), .val (.ref t_473), .val (.int (1 : Int32)), .unset, .unset, .unset, .unset, .unset, .unset]) rfl (pc' := 24) rfl ?_
      refine k_aload X476 at_24 rfl rfl (pc' := 26) rfl ?_
      refine k_arlen X476 at_26 q476_0 (pc' := 27) rfl ?_
      refine k_istore X476 at_27 (Ls' := #[.val (.int p0), .val (.int p1), .val (.int p2), .val (.int p3), .val (.int p4), .val (.int p5), .val (.ref t_473), .val (.int (1 : Int32)), .val (.int (87 : Int32)), .unset, .unset, .unset, .unset, .unset]) rfl (pc' := 29) rfl ?_
      refine k_iload X476 at_29 rfl (pc' := 31) rfl ?_
      refine k_ifNo X476 at_31 (by decide) (pc' := 34) rfl ?_
      refine k_aload X476 at_34 rfl rfl (pc' := 36) rfl ?_
      refine k_iload X476 at_36 rfl (pc' := 38) rfl ?_
      refine k_iconst X476 at_38 (w := (1 : Int32)) rfl (pc' := 39) rfl ?_
      refine k_isub X476 at_39 (w := (86 : Int32)) (by decide) (pc' := 40) rfl ?_
      refine k_iload X476 at_40 rfl (pc' := 42) rfl ?_
      refine k_i2c X476 at_42 (w := cf) hcf (pc' := 43) rfl ?_
      have ge520 : n0 ≤ t_473 := by omega
      refine k_castore X476 (w := cf) (86) at_43 q476_0 (by decide) (by decide) rfl (by simp) (own_i2c_id rcf.1 rcf.2) (vs' := (((List.replicate 87 (0 : Int32)).set 86 cf).map Value.int)) (own_mset _ _ _) (X476.sfA q476_0) ge520 (pc' := 44) rfl fun T519 h519 L519 X519 K519 V519 => ?_
      have sz_h519 := K519.1
      have K0_h519 : Keep h0 h519 [] := K0_h476.trans K519 (allS (Or.inr (by omega)) all0)
      refine k_iload X519 at_44 rfl (pc' := 46) rfl ?_
      refine k_ifNo X519 at_46 (by decide) (pc' := 49) rfl ?_
      refine k_aload X519 at_49 rfl rfl (pc' := 51) rfl ?_
      refine k_iconst X519 at_51 (w := (0 : Int32)) rfl (pc' := 52) rfl ?_
      refine k_iloadN X519 at_52 rfl (pc' := 53) rfl ?_
      refine k_i2c X519 at_53 (w := ca) hca (pc' := 54) rfl ?_
      have ge522 : n0 ≤ t_473 := by omega
      refine k_castore X519 (w := ca) (0) at_54 V519 (by decide) (by decide) rfl (by simp) (own_i2c_id rca.1 rca.2) (vs' := ((((List.replicate 87 (0 : Int32)).set 86 cf).set 0 ca).map Value.int)) (own_mset _ _ _) (X519.sfA V519) ge522 (pc' := 55) rfl fun T521 h521 L521 X521 K521 V521 => ?_
      have sz_h521 := K521.1
      have K0_h521 : Keep h0 h521 [] := K0_h519.trans K521 (allS (Or.inr (by omega)) all0)
      refine k_iload X521 at_55 rfl (pc' := 57) rfl ?_
      refine k_bipush X521 at_57 (w := (42 : Int32)) rfl (pc' := 59) rfl ?_
      refine k_icmpNo X521 at_59 (by decide) (pc' := 62) rfl ?_
      refine k_aload X521 at_62 rfl rfl (pc' := 64) rfl ?_
      refine k_bipush X521 at_64 (w := (42 : Int32)) rfl (pc' := 66) rfl ?_
      refine k_iloadN X521 at_66 rfl (pc' := 67) rfl ?_
      refine k_i2c X521 at_67 (w := cb) hcb (pc' := 68) rfl ?_
      have ge524 : n0 ≤ t_473 := by omega
      refine k_castore X521 (w := cb) (42) at_68 V521 (by decide) (by decide) rfl (by simp) (own_i2c_id rcb.1 rcb.2) (vs' := (((((List.replicate 87 (0 : Int32)).set 86 cf).set 0 ca).set 42 cb).map Value.int)) (own_mset _ _ _) (X521.sfA V521) ge524 (pc' := 69) rfl fun T523 h523 L523 X523 K523 V523 => ?_
      have sz_h523 := K523.1
      have K0_h523 : Keep h0 h523 [] := K0_h521.trans K523 (allS (Or.inr (by omega)) all0)
      refine k_iload X523 at_69 rfl (pc' := 71) rfl ?_
      refine k_bipush X523 at_71 (w := (43 : Int32)) rfl (pc' := 73) rfl ?_
      refine k_icmpNo X523 at_73 (by decide) (pc' := 76) rfl ?_
      refine k_aload X523 at_76 rfl rfl (pc' := 78) rfl ?_
      refine k_bipush X523 at_78 (w := (43 : Int32)) rfl (pc' := 80) rfl ?_
      refine k_iload X523 at_80 rfl (pc' := 82) rfl ?_
      refine k_ifNo X523 at_82 (by decide) (pc' := 85) rfl ?_
      refine k_bipush X523 at_85 (w := (46 : Int32)) rfl (pc' := 87) rfl ?_
      refine k_goto X523 at_87 (pc' := 92) (by decide) (by decide) ?_
      have ge526 : n0 ≤ t_473 := by omega
      refine k_castore X523 (w := (46 : Int32)) (43) at_92 V523 (by decide) (by decide) rfl (by simp) (own_i2c_id own_46.1 own_46.2) (vs' := ((((((List.replicate 87 (0 : Int32)).set 86 cf).set 0 ca).set 42 cb).set 43 (46 : Int32)).map Value.int)) (own_mset _ _ _) (X523.sfA V523) ge526 (pc' := 93) rfl fun T525 h525 L525 X525 K525 V525 => ?_
      have sz_h525 := K525.1
      have K0_h525 : Keep h0 h525 [] := K0_h523.trans K525 (allS (Or.inr (by omega)) all0)
      refine k_iload X525 at_93 rfl (pc' := 95) rfl ?_
      refine k_bipush X525 at_95 (w := (44 : Int32)) rfl (pc' := 97) rfl ?_
      refine k_icmpNo X525 at_97 (by decide) (pc' := 100) rfl ?_
      refine k_aload X525 at_100 rfl rfl (pc' := 102) rfl ?_
      refine k_bipush X525 at_102 (w := (44 : Int32)) rfl (pc' := 104) rfl ?_
      refine k_iload X525 at_104 rfl (pc' := 106) rfl ?_
      refine k_i2c X525 at_106 (w := ce) hce (pc' := 107) rfl ?_
      have ge528 : n0 ≤ t_473 := by omega
      refine k_castore X525 (w := ce) (44) at_107 V525 (by decide) (by decide) rfl (by simp) (own_i2c_id rce.1 rce.2) (vs' := (((((((List.replicate 87 (0 : Int32)).set 86 cf).set 0 ca).set 42 cb).set 43 (46 : Int32)).set 44 ce).map Value.int)) (own_mset _ _ _) (X525.sfA V525) ge528 (pc' := 108) rfl fun T527 h527 L527 X527 K527 V527 => ?_
      have sz_h527 := K527.1
      have K0_h527 : Keep h0 h527 [] := K0_h525.trans K527 (allS (Or.inr (by omega)) all0)
      refine k_bipush X527 at_108 (w := (43 : Int32)) rfl (pc' := 110) rfl ?_
      refine k_newP X527 at_110 (w_4 hw) (by decide) (cap := 43) (by decide) (by decide) (by decide) (by decide) (pc' := 112) rfl fun T529 h529 b529 k529 g529 X529 K529 V529 S529 lt529 ge529 => ?_
      have sz_h529 := K529.1
      have K0_h529 : Keep h0 h529 [] := K0_h527.trans K529 all0
      have Vh : Arv Z h529 b529 k529 .char (43 : Int32) ((List.replicate 43 (0 : Int32)).map Value.int) (.int (0 : Int32)) := Arv.pad V529 (own_padz 43)
      have hCS : own_chs ((((((List.replicate 87 (0 : Int32)).set 86 cf).set 0 ca).set 42 cb).set 43 (46 : Int32)).set 44 ce) := (own_chs_set (own_chs_set (own_chs_set (own_chs_set (own_chs_set (own_chs_rep 87) rcf) rca) rcb) own_46) rce)
      have lCS : ((((((List.replicate 87 (0 : Int32)).set 86 cf).set 0 ca).set 42 cb).set 43 (46 : Int32)).set 44 ce).length = 87 := by simp
      refine k_astore X529 at_112 rfl (Ls' := #[.val (.int p0), .val (.int p1), .val (.int p2), .val (.int p3), .val (.int p4), .val (.int p5), .val (.ref t_473), .val (.int (1 : Int32)), .val (.int (87 : Int32)), .val (.ref b529), .unset, .unset, .unset, .unset]) rfl (pc' := 114) rfl ?_
      refine k_iload X529 at_114 rfl (pc' := 116) rfl ?_
      refine k_ifNo X529 at_116 (by decide) (pc' := 119) rfl ?_
      refine k_aload X529 at_119 rfl rfl (pc' := 121) rfl ?_
      refine k_iconst X529 at_121 (w := (0 : Int32)) rfl (pc' := 122) rfl ?_
      refine k_aload X529 at_122 rfl rfl (pc' := 124) rfl ?_
      refine k_iconst X529 at_124 (w := (0 : Int32)) rfl (pc' := 125) rfl ?_
      have rg0 : ¬ (((((((List.replicate 87 (0 : Int32)).set 86 cf).set 0 ca).set 42 cb).set 43 (46 : Int32)).set 44 ce).getD 0 0) < 0 ∧ ¬ 65535 < (((((((List.replicate 87 (0 : Int32)).set 86 cf).set 0 ca).set 42 cb).set 43 (46 : Int32)).set 44 ce).getD 0 0) := own_chs_at hCS (by rw [lCS]; decide)
      have c530 := (V527.keep K529 nin0)
      refine k_caload X529 at_125 c530 (by decide) (by decide) (v := (.int (((((((List.replicate 87 (0 : Int32)).set 86 cf).set 0 ca).set 42 cb).set 43 (46 : Int32)).set 44 ce).getD 0 0))) (own_getc' (i := 0) ((((((List.replicate 87 (0 : Int32)).set 86 cf).set 0 ca).set 42 cb).set 43 (46 : Int32)).set 44 ce) (by decide)) (pc' := 126) rfl ?_
      have ge532 : n0 ≤ b529 := by omega
      refine k_castore X529 (w := (((((((List.replicate 87 (0 : Int32)).set 86 cf).set 0 ca).set 42 cb).set 43 (46 : Int32)).set 44 ce).getD 0 0)) (0) at_126 Vh (by decide) (by decide) rfl (by simp) (own_i2c_id rg0.1 rg0.2) (vs' := (((List.replicate 43 (0 : Int32)).set 0 (((((((List.replicate 87 (0 : Int32)).set 86 cf).set 0 ca).set 42 cb).set 43 (46 : Int32)).set 44 ce).getD 0 0)).map Value.int)) (own_mset _ _ _) S529 ge532 (pc' := 127) rfl fun T531 h531 L531 X531 K531 V531 => ?_
      have sz_h531 := K531.1
      have K0_h531 : Keep h0 h531 [] := K0_h529.trans K531 (allS (Or.inr (by omega)) all0)
      refine k_iload X531 at_127 rfl (pc' := 129) rfl ?_
      refine k_bipush X531 at_129 (w := (42 : Int32)) rfl (pc' := 131) rfl ?_
      refine k_icmpNo X531 at_131 (by decide) (pc' := 134) rfl ?_
      refine k_aload X531 at_134 rfl rfl (pc' := 136) rfl ?_
      refine k_bipush X531 at_136 (w := (42 : Int32)) rfl (pc' := 138) rfl ?_
      refine k_aload X531 at_138 rfl rfl (pc' := 140) rfl ?_
      refine k_bipush X531 at_140 (w := (42 : Int32)) rfl (pc' := 142) rfl ?_
      have rg42 : ¬ (((((((List.replicate 87 (0 : Int32)).set 86 cf).set 0 ca).set 42 cb).set 43 (46 : Int32)).set 44 ce).getD 42 0) < 0 ∧ ¬ 65535 < (((((((List.replicate 87 (0 : Int32)).set 86 cf).set 0 ca).set 42 cb).set 43 (46 : Int32)).set 44 ce).getD 42 0) := own_chs_at hCS (by rw [lCS]; decide)
      have c533 := (c530.keep K531 (ninS (own_ne (by omega) : t_473 ≠ b529) nin0))
      refine k_caload X531 at_142 c533 (by decide) (by decide) (v := (.int (((((((List.replicate 87 (0 : Int32)).set 86 cf).set 0 ca).set 42 cb).set 43 (46 : Int32)).set 44 ce).getD 42 0))) (own_getc' (i := 42) ((((((List.replicate 87 (0 : Int32)).set 86 cf).set 0 ca).set 42 cb).set 43 (46 : Int32)).set 44 ce) (by decide)) (pc' := 143) rfl ?_
      have c535 := (X529.sf K531 (allS ⟨S529, ge532⟩ all0) S529)
      have ge536 : n0 ≤ b529 := by omega
      refine k_castore X531 (w := (((((((List.replicate 87 (0 : Int32)).set 86 cf).set 0 ca).set 42 cb).set 43 (46 : Int32)).set 44 ce).getD 42 0)) (42) at_143 V531 (by decide) (by decide) rfl (by simp) (own_i2c_id rg42.1 rg42.2) (vs' := ((((List.replicate 43 (0 : Int32)).set 0 (((((((List.replicate 87 (0 : Int32)).set 86 cf).set 0 ca).set 42 cb).set 43 (46 : Int32)).set 44 ce).getD 0 0)).set 42 (((((((List.replicate 87 (0 : Int32)).set 86 cf).set 0 ca).set 42 cb).set 43 (46 : Int32)).set 44 ce).getD 42 0)).map Value.int)) (own_mset _ _ _) c535 ge536 (pc' := 144) rfl fun T534 h534 L534 X534 K534 V534 => ?_
      have sz_h534 := K534.1
      have K0_h534 : Keep h0 h534 [] := K0_h531.trans K534 (allS (Or.inr (by omega)) all0)
      have hHS : own_chs (((List.replicate 43 (0 : Int32)).set 0 (((((((List.replicate 87 (0 : Int32)).set 86 cf).set 0 ca).set 42 cb).set 43 (46 : Int32)).set 44 ce).getD 0 0)).set 42 (((((((List.replicate 87 (0 : Int32)).set 86 cf).set 0 ca).set 42 cb).set 43 (46 : Int32)).set 44 ce).getD 42 0)) := (own_chs_set (own_chs_set (own_chs_rep 43) rg0) rg42)
      have lHS : (((List.replicate 43 (0 : Int32)).set 0 (((((((List.replicate 87 (0 : Int32)).set 86 cf).set 0 ca).set 42 cb).set 43 (46 : Int32)).set 44 ce).getD 0 0)).set 42 (((((((List.replicate 87 (0 : Int32)).set 86 cf).set 0 ca).set 42 cb).set 43 (46 : Int32)).set 44 ce).getD 42 0)).length = 43 := by simp
      refine k_iload X534 at_144 rfl (pc' := 146) rfl ?_
      refine k_bipush X534 at_146 (w := (87 : Int32)) rfl (pc' := 148) rfl ?_
      refine k_icmpNo X534 at_148 (by decide) (pc' := 151) rfl ?_
      refine k_aload X534 at_151 rfl rfl (pc' := 153) rfl ?_
      refine k_bipush X534 at_153 (w := (43 : Int32)) rfl (pc' := 155) rfl ?_
      have c537 := (c533.keep K534 (ninS (own_ne (by omega) : t_473 ≠ b529) nin0))
      refine k_caload X534 at_155 c537 (by decide) (by decide) (v := (.int (((((((List.replicate 87 (0 : Int32)).set 86 cf).set 0 ca).set 42 cb).set 43 (46 : Int32)).set 44 ce).getD 43 0))) (own_getc' (i := 43) ((((((List.replicate 87 (0 : Int32)).set 86 cf).set 0 ca).set 42 cb).set 43 (46 : Int32)).set 44 ce) (by decide)) (pc' := 156) rfl ?_
      refine k_bipush X534 at_156 (w := (46 : Int32)) rfl (pc' := 158) rfl ?_
      have hz : ∀ j, j < 43 → j ≠ 0 → j ≠ 42 → ((((((List.replicate 87 (0 : Int32)).set 86 cf).set 0 ca).set 42 cb).set 43 (46 : Int32)).set 44 ce).getD j 0 = 0 := fun j h1 h2 h3 => by rw [own_gset (by omega), own_gset (by omega), own_gset (by omega), own_gset (by omega), own_gset (by omega), own_grep]
      by_cases hc538 : (((((((List.replicate 87 (0 : Int32)).set 86 cf).set 0 ca).set 42 cb).set 43 (46 : Int32)).set 44 ce).getD 43 0) = (46 : Int32)
      · refine k_icmpNo X534 at_158 (teq hc538).2 (pc' := 161) rfl ?_
        refine k_iconst X534 at_161 (w := (1 : Int32)) rfl (pc' := 162) rfl ?_
        refine k_goto X534 at_162 (pc' := 166) (by decide) (by decide) ?_
        refine k_istore X534 at_166 (Ls' := #[.val (.int p0), .val (.int p1), .val (.int p2), .val (.int p3), .val (.int p4), .val (.int p5), .val (.ref t_473), .val (.int (1 : Int32)), .val (.int (87 : Int32)), .val (.ref b529), .val (.int (1 : Int32)), .unset, .unset, .unset]) rfl (pc' := 168) rfl ?_
        refine k_newO X534 at_168 (w_5 hw) (w_6 hw) (w_7 hw) (by decide) (by decide) (pc' := 171) rfl fun T539 h539 b539 g539 X539 K539 E539 D539 S539 lt539 ge539 => ?_
        have sz_h539 := K539.1
        have K0_h539 : Keep h0 h539 [] := K0_h534.trans K539 all0
        have Fn539_coder : Fld Z h539 b539 "java/lang/String" "coder" "B" (.int (0 : Int32)) := D539 (Or.inr (w_31 hw)) (ty := .byte) (by decide)
        have Fn539_value : Fld Z h539 b539 "java/lang/String" "value" "[B" .null := D539 (Or.inr (w_33 hw)) (ty := (.array .byte)) (by decide)
        refine k_dup X539 at_171 rfl (pc' := 172) rfl ?_
        refine k_aload X539 at_172 rfl rfl (pc' := 174) rfl ?_
        have c540 := (c537.keep K539 nin0)
        have ge546 : n0 ≤ b539 := by omega
        refine k_callPNF X539 (y := (⟨"java/lang/String", "<init>", "([C)V"⟩ : MethodName)) at_174 (w_8 hw) (w_9 hw) (w_7 hw) (w_10 hw) (by decide) rfl rfl (argsL := [(.ref t_473)]) (rest := [(.ref b539)]) (own_initS l Z a0 hw G n0 h539 X539.old b539 t_473 kt_474 (87 : Int32) (((((((List.replicate 87 (0 : Int32)).set 86 cf).set 0 ca).set 42 cb).set 43 (46 : Int32)).set 44 ce).map Value.int) ((((((List.replicate 87 (0 : Int32)).set 86 cf).set 0 ca).set 42 cb).set 43 (46 : Int32)).set 44 ce) rfl (by rw [lCS]; rfl) (by rw [lCS]; decide) (by rw [lCS]; decide) (by omega) E539 Fn539_value Fn539_coder c540) rfl pd_31 rfl rfl (by decide) (W := 1) (Nat.le_of_eq rfl) (by decide) (by decide) (by decide) (allS ⟨S539, ge546⟩ all0) (pc' := 177) rfl ?_
        rintro T547 h547 L547 X547 K547 ⟨t_541, kt_542, cd_543, zz_544, bs_545, q547_0, q547_1, q547_2, q547_3, q547_4, q547_5⟩
        have sz_h547 := K547.1
        have K0_h547 : Keep h0 h547 [] := K0_h539.trans K547 (allS (Or.inr (by omega)) all0)
        have lt547_0 := own_n q547_0.lt
        have lt547_1 := own_n q547_1.lt
        have lt547_2 := own_n q547_2.lt
        have lt547_3 := own_n q547_3.lt
        refine k_astore X547 at_177 rfl (Ls' := #[.val (.int p0), .val (.int p1), .val (.int p2), .val (.int p3), .val (.int p4), .val (.int p5), .val (.ref t_473), .val (.int (1 : Int32)), .val (.int (87 : Int32)), .val (.ref b529), .val (.int (1 : Int32)), .val (.ref b539), .unset, .unset]) rfl (pc' := 179) rfl ?_
        have c548 := ((V534.keep K539 nin0).keep K547 (ninS (own_ne (by omega) : b529 ≠ b539) nin0))
        exact tail _ _ _ _ _ _ _ _ _ _ _ _ _ _ _ _ ((((((List.replicate 87 (0 : Int32)).set 86 cf).set 0 ca).set 42 cb).set 43 (46 : Int32)).set 44 ce) (((List.replicate 43 (0 : Int32)).set 0 (((((((List.replicate 87 (0 : Int32)).set 86 cf).set 0 ca).set 42 cb).set 43 (46 : Int32)).set 44 ce).getD 0 0)).set 42 (((((((List.replicate 87 (0 : Int32)).set 86 cf).set 0 ca).set 42 cb).set 43 (46 : Int32)).set 44 ce).getD 42 0)) hCS (by rw [lCS]; decide) hHS lHS (Or.inl ⟨rfl, ⟨lCS, hc538⟩, own_h43 hz (by rw [lCS]; decide)⟩) q547_5 (X547.up (by decide) (by decide)) K0_h547 q547_0 q547_2 q547_1 q547_3 c548
      · refine k_icmpYes X534 at_158 (feq hc538).2 (pc' := 165) (by decide) (by decide) ?_
        refine k_iconst X534 at_165 (w := (0 : Int32)) rfl (pc' := 166) rfl ?_
        refine k_istore X534 at_166 (Ls' := #[.val (.int p0), .val (.int p1), .val (.int p2), .val (.int p3), .val (.int p4), .val (.int p5), .val (.ref t_473), .val (.int (1 : Int32)), .val (.int (87 : Int32)), .val (.ref b529), .val (.int (0 : Int32)), .unset, .unset, .unset]) rfl (pc' := 168) rfl ?_
        refine k_newO X534 at_168 (w_5 hw) (w_6 hw) (w_7 hw) (by decide) (by decide) (pc' := 171) rfl fun T549 h549 b549 g549 X549 K549 E549 D549 S549 lt549 ge549 => ?_
        have sz_h549 := K549.1
        have K0_h549 : Keep h0 h549 [] := K0_h534.trans K549 all0
        have Fn549_coder : Fld Z h549 b549 "java/lang/String" "coder" "B" (.int (0 : Int32)) := D549 (Or.inr (w_31 hw)) (ty := .byte) (by decide)
        have Fn549_value : Fld Z h549 b549 "java/lang/String" "value" "[B" .null := D549 (Or.inr (w_33 hw)) (ty := (.array .byte)) (by decide)
        refine k_dup X549 at_171 rfl (pc' := 172) rfl ?_
        refine k_aload X549 at_172 rfl rfl (pc' := 174) rfl ?_
        have c550 := (c537.keep K549 nin0)
        have ge556 : n0 ≤ b549 := by omega
        refine k_callPNF X549 (y := (⟨"java/lang/String", "<init>", "([C)V"⟩ : MethodName)) at_174 (w_8 hw) (w_9 hw) (w_7 hw) (w_10 hw) (by decide) rfl rfl (argsL := [(.ref t_473)]) (rest := [(.ref b549)]) (own_initS l Z a0 hw G n0 h549 X549.old b549 t_473 kt_474 (87 : Int32) (((((((List.replicate 87 (0 : Int32)).set 86 cf).set 0 ca).set 42 cb).set 43 (46 : Int32)).set 44 ce).map Value.int) ((((((List.replicate 87 (0 : Int32)).set 86 cf).set 0 ca).set 42 cb).set 43 (46 : Int32)).set 44 ce) rfl (by rw [lCS]; rfl) (by rw [lCS]; decide) (by rw [lCS]; decide) (by omega) E549 Fn549_value Fn549_coder c550) rfl pd_31 rfl rfl (by decide) (W := 1) (Nat.le_of_eq rfl) (by decide) (by decide) (by decide) (allS ⟨S549, ge556⟩ all0) (pc' := 177) rfl ?_
        rintro T557 h557 L557 X557 K557 ⟨t_551, kt_552, cd_553, zz_554, bs_555, q557_0, q557_1, q557_2, q557_3, q557_4, q557_5⟩
        have sz_h557 := K557.1
        have K0_h557 : Keep h0 h557 [] := K0_h549.trans K557 (allS (Or.inr (by omega)) all0)
        have lt557_0 := own_n q557_0.lt
        have lt557_1 := own_n q557_1.lt
        have lt557_2 := own_n q557_2.lt
        have lt557_3 := own_n q557_3.lt
        refine k_astore X557 at_177 rfl (Ls' := #[.val (.int p0), .val (.int p1), .val (.int p2), .val (.int p3), .val (.int p4), .val (.int p5), .val (.ref t_473), .val (.int (1 : Int32)), .val (.int (87 : Int32)), .val (.ref b529), .val (.int (0 : Int32)), .val (.ref b549), .unset, .unset]) rfl (pc' := 179) rfl ?_
        have c558 := ((V534.keep K549 nin0).keep K557 (ninS (own_ne (by omega) : b529 ≠ b549) nin0))
        exact tail _ _ _ _ _ _ _ _ _ _ _ _ _ _ _ _ ((((((List.replicate 87 (0 : Int32)).set 86 cf).set 0 ca).set 42 cb).set 43 (46 : Int32)).set 44 ce) (((List.replicate 43 (0 : Int32)).set 0 (((((((List.replicate 87 (0 : Int32)).set 86 cf).set 0 ca).set 42 cb).set 43 (46 : Int32)).set 44 ce).getD 0 0)).set 42 (((((((List.replicate 87 (0 : Int32)).set 86 cf).set 0 ca).set 42 cb).set 43 (46 : Int32)).set 44 ce).getD 42 0)) hCS (by rw [lCS]; decide) hHS lHS (Or.inr ⟨rfl, fun z => hc538 z.2⟩) q557_5 (X557.up (by decide) (by decide)) K0_h557 q557_0 q557_2 q557_1 q557_3 c558
  · refine k_astore X476 at_7 rfl (Ls' := #[.val (.int p0), .val (.int p1), .val (.int p2), .val (.int p3), .val (.int p4), .val (.int p5), .val (.ref t_473), .unset, .unset, .unset, .unset, .unset, .unset, .unset]) rfl (pc' := 9) rfl ?_
    refine k_iloadN X476 at_9 rfl (pc' := 10) rfl ?_
    refine k_iconst X476 at_10 (w := (3 : Int32)) rfl (pc' := 11) rfl ?_
    refine k_iushr X476 at_11 (w := ((p0.toUInt32 >>> ((3 : Int32) &&& 31).toUInt32).toInt32)) rfl (pc' := 12) rfl ?_
    refine k_iconst X476 at_12 (w := (1 : Int32)) rfl (pc' := 13) rfl ?_
    refine k_iand X476 at_13 (w := (((p0.toUInt32 >>> ((3 : Int32) &&& 31).toUInt32).toInt32) &&& (1 : Int32))) rfl (pc' := 14) rfl ?_
    by_cases hc559 : (((p0.toUInt32 >>> ((3 : Int32) &&& 31).toUInt32).toInt32) &&& (1 : Int32)) = (0 : Int32)
    · refine k_ifYes X476 at_14 ((if0 _ _).trans (teq hc559).1) (pc' := 21) (by decide) (by decide) ?_
      refine k_iconst X476 at_21 (w := (0 : Int32)) rfl (pc' := 22) rfl ?_
      refine k_istore X476 at_22 (Ls' := #[.val (.int p0), .val (.int p1), .val (.int p2), .val (.int p3), .val (.int p4), .val (.int p5), .val (.ref t_473), .val (.int (0 : Int32)), .unset, .unset, .unset, .unset, .unset, .unset]) rfl (pc' := 24) rfl ?_
      refine k_aload X476 at_24 rfl rfl (pc' := 26) rfl ?_
      refine k_arlen X476 at_26 q476_0 (pc' := 27) rfl ?_
      refine k_istore X476 at_27 (Ls' := #[.val (.int p0), .val (.int p1), .val (.int p2), .val (.int p3), .val (.int p4), .val (.int p5), .val (.ref t_473), .val (.int (0 : Int32)), .val (.int (86 : Int32)), .unset, .unset, .unset, .unset, .unset]) rfl (pc' := 29) rfl ?_
      refine k_iload X476 at_29 rfl (pc' := 31) rfl ?_
      refine k_ifNo X476 at_31 (by decide) (pc' := 34) rfl ?_
      refine k_aload X476 at_34 rfl rfl (pc' := 36) rfl ?_
      refine k_iload X476 at_36 rfl (pc' := 38) rfl ?_
      refine k_iconst X476 at_38 (w := (1 : Int32)) rfl (pc' := 39) rfl ?_
      refine k_isub X476 at_39 (w := (85 : Int32)) (by decide) (pc' := 40) rfl ?_
      refine k_iload X476 at_40 rfl (pc' := 42) rfl ?_
      refine k_i2c X476 at_42 (w := cf) hcf (pc' := 43) rfl ?_
      have ge561 : n0 ≤ t_473 := by omega
      refine k_castore X476 (w := cf) (85) at_43 q476_0 (by decide) (by decide) rfl (by simp) (own_i2c_id rcf.1 rcf.2) (vs' := (((List.replicate 86 (0 : Int32)).set 85 cf).map Value.int)) (own_mset _ _ _) (X476.sfA q476_0) ge561 (pc' := 44) rfl fun T560 h560 L560 X560 K560 V560 => ?_
      have sz_h560 := K560.1
      have K0_h560 : Keep h0 h560 [] := K0_h476.trans K560 (allS (Or.inr (by omega)) all0)
      refine k_iload X560 at_44 rfl (pc' := 46) rfl ?_
      refine k_ifNo X560 at_46 (by decide) (pc' := 49) rfl ?_
      refine k_aload X560 at_49 rfl rfl (pc' := 51) rfl ?_
      refine k_iconst X560 at_51 (w := (0 : Int32)) rfl (pc' := 52) rfl ?_
      refine k_iloadN X560 at_52 rfl (pc' := 53) rfl ?_
      refine k_i2c X560 at_53 (w := ca) hca (pc' := 54) rfl ?_
      have ge563 : n0 ≤ t_473 := by omega
      refine k_castore X560 (w := ca) (0) at_54 V560 (by decide) (by decide) rfl (by simp) (own_i2c_id rca.1 rca.2) (vs' := ((((List.replicate 86 (0 : Int32)).set 85 cf).set 0 ca).map Value.int)) (own_mset _ _ _) (X560.sfA V560) ge563 (pc' := 55) rfl fun T562 h562 L562 X562 K562 V562 => ?_
      have sz_h562 := K562.1
      have K0_h562 : Keep h0 h562 [] := K0_h560.trans K562 (allS (Or.inr (by omega)) all0)
      refine k_iload X562 at_55 rfl (pc' := 57) rfl ?_
      refine k_bipush X562 at_57 (w := (42 : Int32)) rfl (pc' := 59) rfl ?_
      refine k_icmpNo X562 at_59 (by decide) (pc' := 62) rfl ?_
      refine k_aload X562 at_62 rfl rfl (pc' := 64) rfl ?_
      refine k_bipush X562 at_64 (w := (42 : Int32)) rfl (pc' := 66) rfl ?_
      refine k_iloadN X562 at_66 rfl (pc' := 67) rfl ?_
      refine k_i2c X562 at_67 (w := cb) hcb (pc' := 68) rfl ?_
      have ge565 : n0 ≤ t_473 := by omega
      refine k_castore X562 (w := cb) (42) at_68 V562 (by decide) (by decide) rfl (by simp) (own_i2c_id rcb.1 rcb.2) (vs' := (((((List.replicate 86 (0 : Int32)).set 85 cf).set 0 ca).set 42 cb).map Value.int)) (own_mset _ _ _) (X562.sfA V562) ge565 (pc' := 69) rfl fun T564 h564 L564 X564 K564 V564 => ?_
      have sz_h564 := K564.1
      have K0_h564 : Keep h0 h564 [] := K0_h562.trans K564 (allS (Or.inr (by omega)) all0)
      refine k_iload X564 at_69 rfl (pc' := 71) rfl ?_
      refine k_bipush X564 at_71 (w := (43 : Int32)) rfl (pc' := 73) rfl ?_
      refine k_icmpNo X564 at_73 (by decide) (pc' := 76) rfl ?_
      refine k_aload X564 at_76 rfl rfl (pc' := 78) rfl ?_
      refine k_bipush X564 at_78 (w := (43 : Int32)) rfl (pc' := 80) rfl ?_
      refine k_iload X564 at_80 rfl (pc' := 82) rfl ?_
      refine k_ifYes X564 at_82 (by decide) (pc' := 90) (by decide) (by decide) ?_
      refine k_iloadN X564 at_90 rfl (pc' := 91) rfl ?_
      refine k_i2c X564 at_91 (w := cc) hcc (pc' := 92) rfl ?_
      have ge567 : n0 ≤ t_473 := by omega
      refine k_castore X564 (w := cc) (43) at_92 V564 (by decide) (by decide) rfl (by simp) (own_i2c_id rcc.1 rcc.2) (vs' := ((((((List.replicate 86 (0 : Int32)).set 85 cf).set 0 ca).set 42 cb).set 43 cc).map Value.int)) (own_mset _ _ _) (X564.sfA V564) ge567 (pc' := 93) rfl fun T566 h566 L566 X566 K566 V566 => ?_
      have sz_h566 := K566.1
      have K0_h566 : Keep h0 h566 [] := K0_h564.trans K566 (allS (Or.inr (by omega)) all0)
      refine k_iload X566 at_93 rfl (pc' := 95) rfl ?_
      refine k_bipush X566 at_95 (w := (44 : Int32)) rfl (pc' := 97) rfl ?_
      refine k_icmpNo X566 at_97 (by decide) (pc' := 100) rfl ?_
      refine k_aload X566 at_100 rfl rfl (pc' := 102) rfl ?_
      refine k_bipush X566 at_102 (w := (44 : Int32)) rfl (pc' := 104) rfl ?_
      refine k_iload X566 at_104 rfl (pc' := 106) rfl ?_
      refine k_i2c X566 at_106 (w := ce) hce (pc' := 107) rfl ?_
      have ge569 : n0 ≤ t_473 := by omega
      refine k_castore X566 (w := ce) (44) at_107 V566 (by decide) (by decide) rfl (by simp) (own_i2c_id rce.1 rce.2) (vs' := (((((((List.replicate 86 (0 : Int32)).set 85 cf).set 0 ca).set 42 cb).set 43 cc).set 44 ce).map Value.int)) (own_mset _ _ _) (X566.sfA V566) ge569 (pc' := 108) rfl fun T568 h568 L568 X568 K568 V568 => ?_
      have sz_h568 := K568.1
      have K0_h568 : Keep h0 h568 [] := K0_h566.trans K568 (allS (Or.inr (by omega)) all0)
      refine k_bipush X568 at_108 (w := (43 : Int32)) rfl (pc' := 110) rfl ?_
      refine k_newP X568 at_110 (w_4 hw) (by decide) (cap := 43) (by decide) (by decide) (by decide) (by decide) (pc' := 112) rfl fun T570 h570 b570 k570 g570 X570 K570 V570 S570 lt570 ge570 => ?_
      have sz_h570 := K570.1
      have K0_h570 : Keep h0 h570 [] := K0_h568.trans K570 all0
      have Vh : Arv Z h570 b570 k570 .char (43 : Int32) ((List.replicate 43 (0 : Int32)).map Value.int) (.int (0 : Int32)) := Arv.pad V570 (own_padz 43)
      have hCS : own_chs ((((((List.replicate 86 (0 : Int32)).set 85 cf).set 0 ca).set 42 cb).set 43 cc).set 44 ce) := (own_chs_set (own_chs_set (own_chs_set (own_chs_set (own_chs_set (own_chs_rep 86) rcf) rca) rcb) rcc) rce)
      have lCS : ((((((List.replicate 86 (0 : Int32)).set 85 cf).set 0 ca).set 42 cb).set 43 cc).set 44 ce).length = 86 := by simp
      refine k_astore X570 at_112 rfl (Ls' := #[.val (.int p0), .val (.int p1), .val (.int p2), .val (.int p3), .val (.int p4), .val (.int p5), .val (.ref t_473), .val (.int (0 : Int32)), .val (.int (86 : Int32)), .val (.ref b570), .unset, .unset, .unset, .unset]) rfl (pc' := 114) rfl ?_
      refine k_iload X570 at_114 rfl (pc' := 116) rfl ?_
      refine k_ifNo X570 at_116 (by decide) (pc' := 119) rfl ?_
      refine k_aload X570 at_119 rfl rfl (pc' := 121) rfl ?_
      refine k_iconst X570 at_121 (w := (0 : Int32)) rfl (pc' := 122) rfl ?_
      refine k_aload X570 at_122 rfl rfl (pc' := 124) rfl ?_
      refine k_iconst X570 at_124 (w := (0 : Int32)) rfl (pc' := 125) rfl ?_
      have rg0 : ¬ (((((((List.replicate 86 (0 : Int32)).set 85 cf).set 0 ca).set 42 cb).set 43 cc).set 44 ce).getD 0 0) < 0 ∧ ¬ 65535 < (((((((List.replicate 86 (0 : Int32)).set 85 cf).set 0 ca).set 42 cb).set 43 cc).set 44 ce).getD 0 0) := own_chs_at hCS (by rw [lCS]; decide)
      have c571 := (V568.keep K570 nin0)
      refine k_caload X570 at_125 c571 (by decide) (by decide) (v := (.int (((((((List.replicate 86 (0 : Int32)).set 85 cf).set 0 ca).set 42 cb).set 43 cc).set 44 ce).getD 0 0))) (own_getc' (i := 0) ((((((List.replicate 86 (0 : Int32)).set 85 cf).set 0 ca).set 42 cb).set 43 cc).set 44 ce) (by decide)) (pc' := 126) rfl ?_
      have ge573 : n0 ≤ b570 := by omega
      refine k_castore X570 (w := (((((((List.replicate 86 (0 : Int32)).set 85 cf).set 0 ca).set 42 cb).set 43 cc).set 44 ce).getD 0 0)) (0) at_126 Vh (by decide) (by decide) rfl (by simp) (own_i2c_id rg0.1 rg0.2) (vs' := (((List.replicate 43 (0 : Int32)).set 0 (((((((List.replicate 86 (0 : Int32)).set 85 cf).set 0 ca).set 42 cb).set 43 cc).set 44 ce).getD 0 0)).map Value.int)) (own_mset _ _ _) S570 ge573 (pc' := 127) rfl fun T572 h572 L572 X572 K572 V572 => ?_
      have sz_h572 := K572.1
      have K0_h572 : Keep h0 h572 [] := K0_h570.trans K572 (allS (Or.inr (by omega)) all0)
      refine k_iload X572 at_127 rfl (pc' := 129) rfl ?_
      refine k_bipush X572 at_129 (w := (42 : Int32)) rfl (pc' := 131) rfl ?_
      refine k_icmpNo X572 at_131 (by decide) (pc' := 134) rfl ?_
      refine k_aload X572 at_134 rfl rfl (pc' := 136) rfl ?_
      refine k_bipush X572 at_136 (w := (42 : Int32)) rfl (pc' := 138) rfl ?_
      refine k_aload X572 at_138 rfl rfl (pc' := 140) rfl ?_
      refine k_bipush X572 at_140 (w := (42 : Int32)) rfl (pc' := 142) rfl ?_
      have rg42 : ¬ (((((((List.replicate 86 (0 : Int32)).set 85 cf).set 0 ca).set 42 cb).set 43 cc).set 44 ce).getD 42 0) < 0 ∧ ¬ 65535 < (((((((List.replicate 86 (0 : Int32)).set 85 cf).set 0 ca).set 42 cb).set 43 cc).set 44 ce).getD 42 0) := own_chs_at hCS (by rw [lCS]; decide)
      have c574 := (c571.keep K572 (ninS (own_ne (by omega) : t_473 ≠ b570) nin0))
      refine k_caload X572 at_142 c574 (by decide) (by decide) (v := (.int (((((((List.replicate 86 (0 : Int32)).set 85 cf).set 0 ca).set 42 cb).set 43 cc).set 44 ce).getD 42 0))) (own_getc' (i := 42) ((((((List.replicate 86 (0 : Int32)).set 85 cf).set 0 ca).set 42 cb).set 43 cc).set 44 ce) (by decide)) (pc' := 143) rfl ?_
      have c576 := (X570.sf K572 (allS ⟨S570, ge573⟩ all0) S570)
      have ge577 : n0 ≤ b570 := by omega
      refine k_castore X572 (w := (((((((List.replicate 86 (0 : Int32)).set 85 cf).set 0 ca).set 42 cb).set 43 cc).set 44 ce).getD 42 0)) (42) at_143 V572 (by decide) (by decide) rfl (by simp) (own_i2c_id rg42.1 rg42.2) (vs' := ((((List.replicate 43 (0 : Int32)).set 0 (((((((List.replicate 86 (0 : Int32)).set 85 cf).set 0 ca).set 42 cb).set 43 cc).set 44 ce).getD 0 0)).set 42 (((((((List.replicate 86 (0 : Int32)).set 85 cf).set 0 ca).set 42 cb).set 43 cc).set 44 ce).getD 42 0)).map Value.int)) (own_mset _ _ _) c576 ge577 (pc' := 144) rfl fun T575 h575 L575 X575 K575 V575 => ?_
      have sz_h575 := K575.1
      have K0_h575 : Keep h0 h575 [] := K0_h572.trans K575 (allS (Or.inr (by omega)) all0)
      have hHS : own_chs (((List.replicate 43 (0 : Int32)).set 0 (((((((List.replicate 86 (0 : Int32)).set 85 cf).set 0 ca).set 42 cb).set 43 cc).set 44 ce).getD 0 0)).set 42 (((((((List.replicate 86 (0 : Int32)).set 85 cf).set 0 ca).set 42 cb).set 43 cc).set 44 ce).getD 42 0)) := (own_chs_set (own_chs_set (own_chs_rep 43) rg0) rg42)
      have lHS : (((List.replicate 43 (0 : Int32)).set 0 (((((((List.replicate 86 (0 : Int32)).set 85 cf).set 0 ca).set 42 cb).set 43 cc).set 44 ce).getD 0 0)).set 42 (((((((List.replicate 86 (0 : Int32)).set 85 cf).set 0 ca).set 42 cb).set 43 cc).set 44 ce).getD 42 0)).length = 43 := by simp
      have hab : ¬ own_tok ((((((List.replicate 86 (0 : Int32)).set 85 cf).set 0 ca).set 42 cb).set 43 cc).set 44 ce) := fun q => absurd (lCS.symm.trans q.1) (by decide)
      refine k_iload X575 at_144 rfl (pc' := 146) rfl ?_
      refine k_bipush X575 at_146 (w := (87 : Int32)) rfl (pc' := 148) rfl ?_
      refine k_icmpYes X575 at_148 (by decide) (pc' := 165) (by decide) (by decide) ?_
      refine k_iconst X575 at_165 (w := (0 : Int32)) rfl (pc' := 166) rfl ?_
      refine k_istore X575 at_166 (Ls' := #[.val (.int p0), .val (.int p1), .val (.int p2), .val (.int p3), .val (.int p4), .val (.int p5), .val (.ref t_473), .val (.int (0 : Int32)), .val (.int (86 : Int32)), .val (.ref b570), .val (.int (0 : Int32)), .unset, .unset, .unset]) rfl (pc' := 168) rfl ?_
      refine k_newO X575 at_168 (w_5 hw) (w_6 hw) (w_7 hw) (by decide) (by decide) (pc' := 171) rfl fun T578 h578 b578 g578 X578 K578 E578 D578 S578 lt578 ge578 => ?_
      have sz_h578 := K578.1
      have K0_h578 : Keep h0 h578 [] := K0_h575.trans K578 all0
      have Fn578_coder : Fld Z h578 b578 "java/lang/String" "coder" "B" (.int (0 : Int32)) := D578 (Or.inr (w_31 hw)) (ty := .byte) (by decide)
      have Fn578_value : Fld Z h578 b578 "java/lang/String" "value" "[B" .null := D578 (Or.inr (w_33 hw)) (ty := (.array .byte)) (by decide)
      refine k_dup X578 at_171 rfl (pc' := 172) rfl ?_
      refine k_aload X578 at_172 rfl rfl (pc' := 174) rfl ?_
      have c579 := ((c574.keep K575 (ninS (own_ne (by omega) : t_473 ≠ b570) nin0)).keep K578 nin0)
      have ge585 : n0 ≤ b578 := by omega
      refine k_callPNF X578 (y := (⟨"java/lang/String", "<init>", "([C)V"⟩ : MethodName)) at_174 (w_8 hw) (w_9 hw) (w_7 hw) (w_10 hw) (by decide) rfl rfl (argsL := [(.ref t_473)]) (rest := [(.ref b578)]) (own_initS l Z a0 hw G n0 h578 X578.old b578 t_473 kt_474 (86 : Int32) (((((((List.replicate 86 (0 : Int32)).set 85 cf).set 0 ca).set 42 cb).set 43 cc).set 44 ce).map Value.int) ((((((List.replicate 86 (0 : Int32)).set 85 cf).set 0 ca).set 42 cb).set 43 cc).set 44 ce) rfl (by rw [lCS]; rfl) (by rw [lCS]; decide) (by rw [lCS]; decide) (by omega) E578 Fn578_value Fn578_coder c579) rfl pd_31 rfl rfl (by decide) (W := 1) (Nat.le_of_eq rfl) (by decide) (by decide) (by decide) (allS ⟨S578, ge585⟩ all0) (pc' := 177) rfl ?_
      rintro T586 h586 L586 X586 K586 ⟨t_580, kt_581, cd_582, zz_583, bs_584, q586_0, q586_1, q586_2, q586_3, q586_4, q586_5⟩
      have sz_h586 := K586.1
      have K0_h586 : Keep h0 h586 [] := K0_h578.trans K586 (allS (Or.inr (by omega)) all0)
      have lt586_0 := own_n q586_0.lt
      have lt586_1 := own_n q586_1.lt
      have lt586_2 := own_n q586_2.lt
      have lt586_3 := own_n q586_3.lt
      refine k_astore X586 at_177 rfl (Ls' := #[.val (.int p0), .val (.int p1), .val (.int p2), .val (.int p3), .val (.int p4), .val (.int p5), .val (.ref t_473), .val (.int (0 : Int32)), .val (.int (86 : Int32)), .val (.ref b570), .val (.int (0 : Int32)), .val (.ref b578), .unset, .unset]) rfl (pc' := 179) rfl ?_
      have c587 := ((V575.keep K578 nin0).keep K586 (ninS (own_ne (by omega) : b570 ≠ b578) nin0))
      exact tail _ _ _ _ _ _ _ _ _ _ _ _ _ _ _ _ ((((((List.replicate 86 (0 : Int32)).set 85 cf).set 0 ca).set 42 cb).set 43 cc).set 44 ce) (((List.replicate 43 (0 : Int32)).set 0 (((((((List.replicate 86 (0 : Int32)).set 85 cf).set 0 ca).set 42 cb).set 43 cc).set 44 ce).getD 0 0)).set 42 (((((((List.replicate 86 (0 : Int32)).set 85 cf).set 0 ca).set 42 cb).set 43 cc).set 44 ce).getD 42 0)) hCS (by rw [lCS]; decide) hHS lHS (Or.inr ⟨rfl, hab⟩) q586_5 (X586.up (by decide) (by decide)) K0_h586 q586_0 q586_2 q586_1 q586_3 c587
    · refine k_ifNo X476 at_14 ((if0 _ _).trans (feq hc559).1) (pc' := 17) rfl ?_
      refine k_iconst X476 at_17 (w := (1 : Int32)) rfl (pc' := 18) rfl ?_
      refine k_goto X476 at_18 (pc' := 22) (by decide) (by decide) ?_
      refine k_istore X476 at_22 (Ls' := #[.val (.int p0), .val (.int p1), .val (.int p2), .val (.int p3), .val (.int p4), .val (.int p5), .val (.ref t_473), .val (.int (1 : Int32)), .unset, .unset, .unset, .unset, .unset, .unset]) rfl (pc' := 24) rfl ?_
      refine k_aload X476 at_24 rfl rfl (pc' := 26) rfl ?_
      refine k_arlen X476 at_26 q476_0 (pc' := 27) rfl ?_
      refine k_istore X476 at_27 (Ls' := #[.val (.int p0), .val (.int p1), .val (.int p2), .val (.int p3), .val (.int p4), .val (.int p5), .val (.ref t_473), .val (.int (1 : Int32)), .val (.int (86 : Int32)), .unset, .unset, .unset, .unset, .unset]) rfl (pc' := 29) rfl ?_
      refine k_iload X476 at_29 rfl (pc' := 31) rfl ?_
      refine k_ifNo X476 at_31 (by decide) (pc' := 34) rfl ?_
      refine k_aload X476 at_34 rfl rfl (pc' := 36) rfl ?_
      refine k_iload X476 at_36 rfl (pc' := 38) rfl ?_
      refine k_iconst X476 at_38 (w := (1 : Int32)) rfl (pc' := 39) rfl ?_
      refine k_isub X476 at_39 (w := (85 : Int32)) (by decide) (pc' := 40) rfl ?_
      refine k_iload X476 at_40 rfl (pc' := 42) rfl ?_
      refine k_i2c X476 at_42 (w := cf) hcf (pc' := 43) rfl ?_
      have ge589 : n0 ≤ t_473 := by omega
      refine k_castore X476 (w := cf) (85) at_43 q476_0 (by decide) (by decide) rfl (by simp) (own_i2c_id rcf.1 rcf.2) (vs' := (((List.replicate 86 (0 : Int32)).set 85 cf).map Value.int)) (own_mset _ _ _) (X476.sfA q476_0) ge589 (pc' := 44) rfl fun T588 h588 L588 X588 K588 V588 => ?_
      have sz_h588 := K588.1
      have K0_h588 : Keep h0 h588 [] := K0_h476.trans K588 (allS (Or.inr (by omega)) all0)
      refine k_iload X588 at_44 rfl (pc' := 46) rfl ?_
      refine k_ifNo X588 at_46 (by decide) (pc' := 49) rfl ?_
      refine k_aload X588 at_49 rfl rfl (pc' := 51) rfl ?_
      refine k_iconst X588 at_51 (w := (0 : Int32)) rfl (pc' := 52) rfl ?_
      refine k_iloadN X588 at_52 rfl (pc' := 53) rfl ?_
      refine k_i2c X588 at_53 (w := ca) hca (pc' := 54) rfl ?_
      have ge591 : n0 ≤ t_473 := by omega
      refine k_castore X588 (w := ca) (0) at_54 V588 (by decide) (by decide) rfl (by simp) (own_i2c_id rca.1 rca.2) (vs' := ((((List.replicate 86 (0 : Int32)).set 85 cf).set 0 ca).map Value.int)) (own_mset _ _ _) (X588.sfA V588) ge591 (pc' := 55) rfl fun T590 h590 L590 X590 K590 V590 => ?_
      have sz_h590 := K590.1
      have K0_h590 : Keep h0 h590 [] := K0_h588.trans K590 (allS (Or.inr (by omega)) all0)
      refine k_iload X590 at_55 rfl (pc' := 57) rfl ?_
      refine k_bipush X590 at_57 (w := (42 : Int32)) rfl (pc' := 59) rfl ?_
      refine k_icmpNo X590 at_59 (by decide) (pc' := 62) rfl ?_
      refine k_aload X590 at_62 rfl rfl (pc' := 64) rfl ?_
      refine k_bipush X590 at_64 (w := (42 : Int32)) rfl (pc' := 66) rfl ?_
      refine k_iloadN X590 at_66 rfl (pc' := 67) rfl ?_
      refine k_i2c X590 at_67 (w := cb) hcb (pc' := 68) rfl ?_
      have ge593 : n0 ≤ t_473 := by omega
      refine k_castore X590 (w := cb) (42) at_68 V590 (by decide) (by decide) rfl (by simp) (own_i2c_id rcb.1 rcb.2) (vs' := (((((List.replicate 86 (0 : Int32)).set 85 cf).set 0 ca).set 42 cb).map Value.int)) (own_mset _ _ _) (X590.sfA V590) ge593 (pc' := 69) rfl fun T592 h592 L592 X592 K592 V592 => ?_
      have sz_h592 := K592.1
      have K0_h592 : Keep h0 h592 [] := K0_h590.trans K592 (allS (Or.inr (by omega)) all0)
      refine k_iload X592 at_69 rfl (pc' := 71) rfl ?_
      refine k_bipush X592 at_71 (w := (43 : Int32)) rfl (pc' := 73) rfl ?_
      refine k_icmpNo X592 at_73 (by decide) (pc' := 76) rfl ?_
      refine k_aload X592 at_76 rfl rfl (pc' := 78) rfl ?_
      refine k_bipush X592 at_78 (w := (43 : Int32)) rfl (pc' := 80) rfl ?_
      refine k_iload X592 at_80 rfl (pc' := 82) rfl ?_
      refine k_ifNo X592 at_82 (by decide) (pc' := 85) rfl ?_
      refine k_bipush X592 at_85 (w := (46 : Int32)) rfl (pc' := 87) rfl ?_
      refine k_goto X592 at_87 (pc' := 92) (by decide) (by decide) ?_
      have ge595 : n0 ≤ t_473 := by omega
      refine k_castore X592 (w := (46 : Int32)) (43) at_92 V592 (by decide) (by decide) rfl (by simp) (own_i2c_id own_46.1 own_46.2) (vs' := ((((((List.replicate 86 (0 : Int32)).set 85 cf).set 0 ca).set 42 cb).set 43 (46 : Int32)).map Value.int)) (own_mset _ _ _) (X592.sfA V592) ge595 (pc' := 93) rfl fun T594 h594 L594 X594 K594 V594 => ?_
      have sz_h594 := K594.1
      have K0_h594 : Keep h0 h594 [] := K0_h592.trans K594 (allS (Or.inr (by omega)) all0)
      refine k_iload X594 at_93 rfl (pc' := 95) rfl ?_
      refine k_bipush X594 at_95 (w := (44 : Int32)) rfl (pc' := 97) rfl ?_
      refine k_icmpNo X594 at_97 (by decide) (pc' := 100) rfl ?_
      refine k_aload X594 at_100 rfl rfl (pc' := 102) rfl ?_
      refine k_bipush X594 at_102 (w := (44 : Int32)) rfl (pc' := 104) rfl ?_
      refine k_iload X594 at_104 rfl (pc' := 106) rfl ?_
      refine k_i2c X594 at_106 (w := ce) hce (pc' := 107) rfl ?_
      have ge597 : n0 ≤ t_473 := by omega
      refine k_castore X594 (w := ce) (44) at_107 V594 (by decide) (by decide) rfl (by simp) (own_i2c_id rce.1 rce.2) (vs' := (((((((List.replicate 86 (0 : Int32)).set 85 cf).set 0 ca).set 42 cb).set 43 (46 : Int32)).set 44 ce).map Value.int)) (own_mset _ _ _) (X594.sfA V594) ge597 (pc' := 108) rfl fun T596 h596 L596 X596 K596 V596 => ?_
      have sz_h596 := K596.1
      have K0_h596 : Keep h0 h596 [] := K0_h594.trans K596 (allS (Or.inr (by omega)) all0)
      refine k_bipush X596 at_108 (w := (43 : Int32)) rfl (pc' := 110) rfl ?_
      refine k_newP X596 at_110 (w_4 hw) (by decide) (cap := 43) (by decide) (by decide) (by decide) (by decide) (pc' := 112) rfl fun T598 h598 b598 k598 g598 X598 K598 V598 S598 lt598 ge598 => ?_
      have sz_h598 := K598.1
      have K0_h598 : Keep h0 h598 [] := K0_h596.trans K598 all0
      have Vh : Arv Z h598 b598 k598 .char (43 : Int32) ((List.replicate 43 (0 : Int32)).map Value.int) (.int (0 : Int32)) := Arv.pad V598 (own_padz 43)
      have hCS : own_chs ((((((List.replicate 86 (0 : Int32)).set 85 cf).set 0 ca).set 42 cb).set 43 (46 : Int32)).set 44 ce) := (own_chs_set (own_chs_set (own_chs_set (own_chs_set (own_chs_set (own_chs_rep 86) rcf) rca) rcb) own_46) rce)
      have lCS : ((((((List.replicate 86 (0 : Int32)).set 85 cf).set 0 ca).set 42 cb).set 43 (46 : Int32)).set 44 ce).length = 86 := by simp
      refine k_astore X598 at_112 rfl (Ls' := #[.val (.int p0), .val (.int p1), .val (.int p2), .val (.int p3), .val (.int p4), .val (.int p5), .val (.ref t_473), .val (.int (1 : Int32)), .val (.int (86 : Int32)), .val (.ref b598), .unset, .unset, .unset, .unset]) rfl (pc' := 114) rfl ?_
      refine k_iload X598 at_114 rfl (pc' := 116) rfl ?_
      refine k_ifNo X598 at_116 (by decide) (pc' := 119) rfl ?_
      refine k_aload X598 at_119 rfl rfl (pc' := 121) rfl ?_
      refine k_iconst X598 at_121 (w := (0 : Int32)) rfl (pc' := 122) rfl ?_
      refine k_aload X598 at_122 rfl rfl (pc' := 124) rfl ?_
      refine k_iconst X598 at_124 (w := (0 : Int32)) rfl (pc' := 125) rfl ?_
      have rg0 : ¬ (((((((List.replicate 86 (0 : Int32)).set 85 cf).set 0 ca).set 42 cb).set 43 (46 : Int32)).set 44 ce).getD 0 0) < 0 ∧ ¬ 65535 < (((((((List.replicate 86 (0 : Int32)).set 85 cf).set 0 ca).set 42 cb).set 43 (46 : Int32)).set 44 ce).getD 0 0) := own_chs_at hCS (by rw [lCS]; decide)
      have c599 := (V596.keep K598 nin0)
      refine k_caload X598 at_125 c599 (by decide) (by decide) (v := (.int (((((((List.replicate 86 (0 : Int32)).set 85 cf).set 0 ca).set 42 cb).set 43 (46 : Int32)).set 44 ce).getD 0 0))) (own_getc' (i := 0) ((((((List.replicate 86 (0 : Int32)).set 85 cf).set 0 ca).set 42 cb).set 43 (46 : Int32)).set 44 ce) (by decide)) (pc' := 126) rfl ?_
      have ge601 : n0 ≤ b598 := by omega
      refine k_castore X598 (w := (((((((List.replicate 86 (0 : Int32)).set 85 cf).set 0 ca).set 42 cb).set 43 (46 : Int32)).set 44 ce).getD 0 0)) (0) at_126 Vh (by decide) (by decide) rfl (by simp) (own_i2c_id rg0.1 rg0.2) (vs' := (((List.replicate 43 (0 : Int32)).set 0 (((((((List.replicate 86 (0 : Int32)).set 85 cf).set 0 ca).set 42 cb).set 43 (46 : Int32)).set 44 ce).getD 0 0)).map Value.int)) (own_mset _ _ _) S598 ge601 (pc' := 127) rfl fun T600 h600 L600 X600 K600 V600 => ?_
      have sz_h600 := K600.1
      have K0_h600 : Keep h0 h600 [] := K0_h598.trans K600 (allS (Or.inr (by omega)) all0)
      refine k_iload X600 at_127 rfl (pc' := 129) rfl ?_
      refine k_bipush X600 at_129 (w := (42 : Int32)) rfl (pc' := 131) rfl ?_
      refine k_icmpNo X600 at_131 (by decide) (pc' := 134) rfl ?_
      refine k_aload X600 at_134 rfl rfl (pc' := 136) rfl ?_
      refine k_bipush X600 at_136 (w := (42 : Int32)) rfl (pc' := 138) rfl ?_
      refine k_aload X600 at_138 rfl rfl (pc' := 140) rfl ?_
      refine k_bipush X600 at_140 (w := (42 : Int32)) rfl (pc' := 142) rfl ?_
      have rg42 : ¬ (((((((List.replicate 86 (0 : Int32)).set 85 cf).set 0 ca).set 42 cb).set 43 (46 : Int32)).set 44 ce).getD 42 0) < 0 ∧ ¬ 65535 < (((((((List.replicate 86 (0 : Int32)).set 85 cf).set 0 ca).set 42 cb).set 43 (46 : Int32)).set 44 ce).getD 42 0) := own_chs_at hCS (by rw [lCS]; decide)
      have c602 := (c599.keep K600 (ninS (own_ne (by omega) : t_473 ≠ b598) nin0))
      refine k_caload X600 at_142 c602 (by decide) (by decide) (v := (.int (((((((List.replicate 86 (0 : Int32)).set 85 cf).set 0 ca).set 42 cb).set 43 (46 : Int32)).set 44 ce).getD 42 0))) (own_getc' (i := 42) ((((((List.replicate 86 (0 : Int32)).set 85 cf).set 0 ca).set 42 cb).set 43 (46 : Int32)).set 44 ce) (by decide)) (pc' := 143) rfl ?_
      have c604 := (X598.sf K600 (allS ⟨S598, ge601⟩ all0) S598)
      have ge605 : n0 ≤ b598 := by omega
      refine k_castore X600 (w := (((((((List.replicate 86 (0 : Int32)).set 85 cf).set 0 ca).set 42 cb).set 43 (46 : Int32)).set 44 ce).getD 42 0)) (42) at_143 V600 (by decide) (by decide) rfl (by simp) (own_i2c_id rg42.1 rg42.2) (vs' := ((((List.replicate 43 (0 : Int32)).set 0 (((((((List.replicate 86 (0 : Int32)).set 85 cf).set 0 ca).set 42 cb).set 43 (46 : Int32)).set 44 ce).getD 0 0)).set 42 (((((((List.replicate 86 (0 : Int32)).set 85 cf).set 0 ca).set 42 cb).set 43 (46 : Int32)).set 44 ce).getD 42 0)).map Value.int)) (own_mset _ _ _) c604 ge605 (pc' := 144) rfl fun T603 h603 L603 X603 K603 V603 => ?_
      have sz_h603 := K603.1
      have K0_h603 : Keep h0 h603 [] := K0_h600.trans K603 (allS (Or.inr (by omega)) all0)
      have hHS : own_chs (((List.replicate 43 (0 : Int32)).set 0 (((((((List.replicate 86 (0 : Int32)).set 85 cf).set 0 ca).set 42 cb).set 43 (46 : Int32)).set 44 ce).getD 0 0)).set 42 (((((((List.replicate 86 (0 : Int32)).set 85 cf).set 0 ca).set 42 cb).set 43 (46 : Int32)).set 44 ce).getD 42 0)) := (own_chs_set (own_chs_set (own_chs_rep 43) rg0) rg42)
      have lHS : (((List.replicate 43 (0 : Int32)).set 0 (((((((List.replicate 86 (0 : Int32)).set 85 cf).set 0 ca).set 42 cb).set 43 (46 : Int32)).set 44 ce).getD 0 0)).set 42 (((((((List.replicate 86 (0 : Int32)).set 85 cf).set 0 ca).set 42 cb).set 43 (46 : Int32)).set 44 ce).getD 42 0)).length = 43 := by simp
      have hab : ¬ own_tok ((((((List.replicate 86 (0 : Int32)).set 85 cf).set 0 ca).set 42 cb).set 43 (46 : Int32)).set 44 ce) := fun q => absurd (lCS.symm.trans q.1) (by decide)
      refine k_iload X603 at_144 rfl (pc' := 146) rfl ?_
      refine k_bipush X603 at_146 (w := (87 : Int32)) rfl (pc' := 148) rfl ?_
      refine k_icmpYes X603 at_148 (by decide) (pc' := 165) (by decide) (by decide) ?_
      refine k_iconst X603 at_165 (w := (0 : Int32)) rfl (pc' := 166) rfl ?_
      refine k_istore X603 at_166 (Ls' := #[.val (.int p0), .val (.int p1), .val (.int p2), .val (.int p3), .val (.int p4), .val (.int p5), .val (.ref t_473), .val (.int (1 : Int32)), .val (.int (86 : Int32)), .val (.ref b598), .val (.int (0 : Int32)), .unset, .unset, .unset]) rfl (pc' := 168) rfl ?_
      refine k_newO X603 at_168 (w_5 hw) (w_6 hw) (w_7 hw) (by decide) (by decide) (pc' := 171) rfl fun T606 h606 b606 g606 X606 K606 E606 D606 S606 lt606 ge606 => ?_
      have sz_h606 := K606.1
      have K0_h606 : Keep h0 h606 [] := K0_h603.trans K606 all0
      have Fn606_coder : Fld Z h606 b606 "java/lang/String" "coder" "B" (.int (0 : Int32)) := D606 (Or.inr (w_31 hw)) (ty := .byte) (by decide)
      have Fn606_value : Fld Z h606 b606 "java/lang/String" "value" "[B" .null := D606 (Or.inr (w_33 hw)) (ty := (.array .byte)) (by decide)
      refine k_dup X606 at_171 rfl (pc' := 172) rfl ?_
      refine k_aload X606 at_172 rfl rfl (pc' := 174) rfl ?_
      have c607 := ((c602.keep K603 (ninS (own_ne (by omega) : t_473 ≠ b598) nin0)).keep K606 nin0)
      have ge613 : n0 ≤ b606 := by omega
      refine k_callPNF X606 (y := (⟨"java/lang/String", "<init>", "([C)V"⟩ : MethodName)) at_174 (w_8 hw) (w_9 hw) (w_7 hw) (w_10 hw) (by decide) rfl rfl (argsL := [(.ref t_473)]) (rest := [(.ref b606)]) (own_initS l Z a0 hw G n0 h606 X606.old b606 t_473 kt_474 (86 : Int32) (((((((List.replicate 86 (0 : Int32)).set 85 cf).set 0 ca).set 42 cb).set 43 (46 : Int32)).set 44 ce).map Value.int) ((((((List.replicate 86 (0 : Int32)).set 85 cf).set 0 ca).set 42 cb).set 43 (46 : Int32)).set 44 ce) rfl (by rw [lCS]; rfl) (by rw [lCS]; decide) (by rw [lCS]; decide) (by omega) E606 Fn606_value Fn606_coder c607) rfl pd_31 rfl rfl (by decide) (W := 1) (Nat.le_of_eq rfl) (by decide) (by decide) (by decide) (allS ⟨S606, ge613⟩ all0) (pc' := 177) rfl ?_
      rintro T614 h614 L614 X614 K614 ⟨t_608, kt_609, cd_610, zz_611, bs_612, q614_0, q614_1, q614_2, q614_3, q614_4, q614_5⟩
      have sz_h614 := K614.1
      have K0_h614 : Keep h0 h614 [] := K0_h606.trans K614 (allS (Or.inr (by omega)) all0)
      have lt614_0 := own_n q614_0.lt
      have lt614_1 := own_n q614_1.lt
      have lt614_2 := own_n q614_2.lt
      have lt614_3 := own_n q614_3.lt
      refine k_astore X614 at_177 rfl (Ls' := #[.val (.int p0), .val (.int p1), .val (.int p2), .val (.int p3), .val (.int p4), .val (.int p5), .val (.ref t_473), .val (.int (1 : Int32)), .val (.int (86 : Int32)), .val (.ref b598), .val (.int (0 : Int32)), .val (.ref b606), .unset, .unset]) rfl (pc' := 179) rfl ?_
      have c615 := ((V603.keep K606 nin0).keep K614 (ninS (own_ne (by omega) : b598 ≠ b606) nin0))
      exact tail _ _ _ _ _ _ _ _ _ _ _ _ _ _ _ _ ((((((List.replicate 86 (0 : Int32)).set 85 cf).set 0 ca).set 42 cb).set 43 (46 : Int32)).set 44 ce) (((List.replicate 43 (0 : Int32)).set 0 (((((((List.replicate 86 (0 : Int32)).set 85 cf).set 0 ca).set 42 cb).set 43 (46 : Int32)).set 44 ce).getD 0 0)).set 42 (((((((List.replicate 86 (0 : Int32)).set 85 cf).set 0 ca).set 42 cb).set 43 (46 : Int32)).set 44 ce).getD 42 0)) hCS (by rw [lCS]; decide) hHS lHS (Or.inr ⟨rfl, hab⟩) q614_5 (X614.up (by decide) (by decide)) K0_h614 q614_0 q614_2 q614_1 q614_3 c615
  · refine k_astore X476 at_7 rfl (Ls' := #[.val (.int p0), .val (.int p1), .val (.int p2), .val (.int p3), .val (.int p4), .val (.int p5), .val (.ref t_473), .unset, .unset, .unset, .unset, .unset, .unset, .unset]) rfl (pc' := 9) rfl ?_
    refine k_iloadN X476 at_9 rfl (pc' := 10) rfl ?_
    refine k_iconst X476 at_10 (w := (3 : Int32)) rfl (pc' := 11) rfl ?_
    refine k_iushr X476 at_11 (w := ((p0.toUInt32 >>> ((3 : Int32) &&& 31).toUInt32).toInt32)) rfl (pc' := 12) rfl ?_
    refine k_iconst X476 at_12 (w := (1 : Int32)) rfl (pc' := 13) rfl ?_
    refine k_iand X476 at_13 (w := (((p0.toUInt32 >>> ((3 : Int32) &&& 31).toUInt32).toInt32) &&& (1 : Int32))) rfl (pc' := 14) rfl ?_
    by_cases hc616 : (((p0.toUInt32 >>> ((3 : Int32) &&& 31).toUInt32).toInt32) &&& (1 : Int32)) = (0 : Int32)
    · refine k_ifYes X476 at_14 ((if0 _ _).trans (teq hc616).1) (pc' := 21) (by decide) (by decide) ?_
      refine k_iconst X476 at_21 (w := (0 : Int32)) rfl (pc' := 22) rfl ?_
      refine k_istore X476 at_22 (Ls' := #[.val (.int p0), .val (.int p1), .val (.int p2), .val (.int p3), .val (.int p4), .val (.int p5), .val (.ref t_473), .val (.int (0 : Int32)), .unset, .unset, .unset, .unset, .unset, .unset]) rfl (pc' := 24) rfl ?_
      refine k_aload X476 at_24 rfl rfl (pc' := 26) rfl ?_
      refine k_arlen X476 at_26 q476_0 (pc' := 27) rfl ?_
      refine k_istore X476 at_27 (Ls' := #[.val (.int p0), .val (.int p1), .val (.int p2), .val (.int p3), .val (.int p4), .val (.int p5), .val (.ref t_473), .val (.int (0 : Int32)), .val (.int (88 : Int32)), .unset, .unset, .unset, .unset, .unset]) rfl (pc' := 29) rfl ?_
      refine k_iload X476 at_29 rfl (pc' := 31) rfl ?_
      refine k_ifNo X476 at_31 (by decide) (pc' := 34) rfl ?_
      refine k_aload X476 at_34 rfl rfl (pc' := 36) rfl ?_
      refine k_iload X476 at_36 rfl (pc' := 38) rfl ?_
      refine k_iconst X476 at_38 (w := (1 : Int32)) rfl (pc' := 39) rfl ?_
      refine k_isub X476 at_39 (w := (87 : Int32)) (by decide) (pc' := 40) rfl ?_
      refine k_iload X476 at_40 rfl (pc' := 42) rfl ?_
      refine k_i2c X476 at_42 (w := cf) hcf (pc' := 43) rfl ?_
      have ge618 : n0 ≤ t_473 := by omega
      refine k_castore X476 (w := cf) (87) at_43 q476_0 (by decide) (by decide) rfl (by simp) (own_i2c_id rcf.1 rcf.2) (vs' := (((List.replicate 88 (0 : Int32)).set 87 cf).map Value.int)) (own_mset _ _ _) (X476.sfA q476_0) ge618 (pc' := 44) rfl fun T617 h617 L617 X617 K617 V617 => ?_
      have sz_h617 := K617.1
      have K0_h617 : Keep h0 h617 [] := K0_h476.trans K617 (allS (Or.inr (by omega)) all0)
      refine k_iload X617 at_44 rfl (pc' := 46) rfl ?_
      refine k_ifNo X617 at_46 (by decide) (pc' := 49) rfl ?_
      refine k_aload X617 at_49 rfl rfl (pc' := 51) rfl ?_
      refine k_iconst X617 at_51 (w := (0 : Int32)) rfl (pc' := 52) rfl ?_
      refine k_iloadN X617 at_52 rfl (pc' := 53) rfl ?_
      refine k_i2c X617 at_53 (w := ca) hca (pc' := 54) rfl ?_
      have ge620 : n0 ≤ t_473 := by omega
      refine k_castore X617 (w := ca) (0) at_54 V617 (by decide) (by decide) rfl (by simp) (own_i2c_id rca.1 rca.2) (vs' := ((((List.replicate 88 (0 : Int32)).set 87 cf).set 0 ca).map Value.int)) (own_mset _ _ _) (X617.sfA V617) ge620 (pc' := 55) rfl fun T619 h619 L619 X619 K619 V619 => ?_
      have sz_h619 := K619.1
      have K0_h619 : Keep h0 h619 [] := K0_h617.trans K619 (allS (Or.inr (by omega)) all0)
      refine k_iload X619 at_55 rfl (pc' := 57) rfl ?_
      refine k_bipush X619 at_57 (w := (42 : Int32)) rfl (pc' := 59) rfl ?_
      refine k_icmpNo X619 at_59 (by decide) (pc' := 62) rfl ?_
      refine k_aload X619 at_62 rfl rfl (pc' := 64) rfl ?_
      refine k_bipush X619 at_64 (w := (42 : Int32)) rfl (pc' := 66) rfl ?_
      refine k_iloadN X619 at_66 rfl (pc' := 67) rfl ?_
      refine k_i2c X619 at_67 (w := cb) hcb (pc' := 68) rfl ?_
      have ge622 : n0 ≤ t_473 := by omega
      refine k_castore X619 (w := cb) (42) at_68 V619 (by decide) (by decide) rfl (by simp) (own_i2c_id rcb.1 rcb.2) (vs' := (((((List.replicate 88 (0 : Int32)).set 87 cf).set 0 ca).set 42 cb).map Value.int)) (own_mset _ _ _) (X619.sfA V619) ge622 (pc' := 69) rfl fun T621 h621 L621 X621 K621 V621 => ?_
      have sz_h621 := K621.1
      have K0_h621 : Keep h0 h621 [] := K0_h619.trans K621 (allS (Or.inr (by omega)) all0)
      refine k_iload X621 at_69 rfl (pc' := 71) rfl ?_
      refine k_bipush X621 at_71 (w := (43 : Int32)) rfl (pc' := 73) rfl ?_
      refine k_icmpNo X621 at_73 (by decide) (pc' := 76) rfl ?_
      refine k_aload X621 at_76 rfl rfl (pc' := 78) rfl ?_
      refine k_bipush X621 at_78 (w := (43 : Int32)) rfl (pc' := 80) rfl ?_
      refine k_iload X621 at_80 rfl (pc' := 82) rfl ?_
      refine k_ifYes X621 at_82 (by decide) (pc' := 90) (by decide) (by decide) ?_
      refine k_iloadN X621 at_90 rfl (pc' := 91) rfl ?_
      refine k_i2c X621 at_91 (w := cc) hcc (pc' := 92) rfl ?_
      have ge624 : n0 ≤ t_473 := by omega
      refine k_castore X621 (w := cc) (43) at_92 V621 (by decide) (by decide) rfl (by simp) (own_i2c_id rcc.1 rcc.2) (vs' := ((((((List.replicate 88 (0 : Int32)).set 87 cf).set 0 ca).set 42 cb).set 43 cc).map Value.int)) (own_mset _ _ _) (X621.sfA V621) ge624 (pc' := 93) rfl fun T623 h623 L623 X623 K623 V623 => ?_
      have sz_h623 := K623.1
      have K0_h623 : Keep h0 h623 [] := K0_h621.trans K623 (allS (Or.inr (by omega)) all0)
      refine k_iload X623 at_93 rfl (pc' := 95) rfl ?_
      refine k_bipush X623 at_95 (w := (44 : Int32)) rfl (pc' := 97) rfl ?_
      refine k_icmpNo X623 at_97 (by decide) (pc' := 100) rfl ?_
      refine k_aload X623 at_100 rfl rfl (pc' := 102) rfl ?_
      refine k_bipush X623 at_102 (w := (44 : Int32)) rfl (pc' := 104) rfl ?_
      refine k_iload X623 at_104 rfl (pc' := 106) rfl ?_
      refine k_i2c X623 at_106 (w := ce) hce (pc' := 107) rfl ?_
      have ge626 : n0 ≤ t_473 := by omega
      refine k_castore X623 (w := ce) (44) at_107 V623 (by decide) (by decide) rfl (by simp) (own_i2c_id rce.1 rce.2) (vs' := (((((((List.replicate 88 (0 : Int32)).set 87 cf).set 0 ca).set 42 cb).set 43 cc).set 44 ce).map Value.int)) (own_mset _ _ _) (X623.sfA V623) ge626 (pc' := 108) rfl fun T625 h625 L625 X625 K625 V625 => ?_
      have sz_h625 := K625.1
      have K0_h625 : Keep h0 h625 [] := K0_h623.trans K625 (allS (Or.inr (by omega)) all0)
      refine k_bipush X625 at_108 (w := (43 : Int32)) rfl (pc' := 110) rfl ?_
      refine k_newP X625 at_110 (w_4 hw) (by decide) (cap := 43) (by decide) (by decide) (by decide) (by decide) (pc' := 112) rfl fun T627 h627 b627 k627 g627 X627 K627 V627 S627 lt627 ge627 => ?_
      have sz_h627 := K627.1
      have K0_h627 : Keep h0 h627 [] := K0_h625.trans K627 all0
      have Vh : Arv Z h627 b627 k627 .char (43 : Int32) ((List.replicate 43 (0 : Int32)).map Value.int) (.int (0 : Int32)) := Arv.pad V627 (own_padz 43)
      have hCS : own_chs ((((((List.replicate 88 (0 : Int32)).set 87 cf).set 0 ca).set 42 cb).set 43 cc).set 44 ce) := (own_chs_set (own_chs_set (own_chs_set (own_chs_set (own_chs_set (own_chs_rep 88) rcf) rca) rcb) rcc) rce)
      have lCS : ((((((List.replicate 88 (0 : Int32)).set 87 cf).set 0 ca).set 42 cb).set 43 cc).set 44 ce).length = 88 := by simp
      refine k_astore X627 at_112 rfl (Ls' := #[.val (.int p0), .val (.int p1), .val (.int p2), .val (.int p3), .val (.int p4), .val (.int p5), .val (.ref t_473), .val (.int (0 : Int32)), .val (.int (88 : Int32)), .val (.ref b627), .unset, .unset, .unset, .unset]) rfl (pc' := 114) rfl ?_
      refine k_iload X627 at_114 rfl (pc' := 116) rfl ?_
      refine k_ifNo X627 at_116 (by decide) (pc' := 119) rfl ?_
      refine k_aload X627 at_119 rfl rfl (pc' := 121) rfl ?_
      refine k_iconst X627 at_121 (w := (0 : Int32)) rfl (pc' := 122) rfl ?_
      refine k_aload X627 at_122 rfl rfl (pc' := 124) rfl ?_
      refine k_iconst X627 at_124 (w := (0 : Int32)) rfl (pc' := 125) rfl ?_
      have rg0 : ¬ (((((((List.replicate 88 (0 : Int32)).set 87 cf).set 0 ca).set 42 cb).set 43 cc).set 44 ce).getD 0 0) < 0 ∧ ¬ 65535 < (((((((List.replicate 88 (0 : Int32)).set 87 cf).set 0 ca).set 42 cb).set 43 cc).set 44 ce).getD 0 0) := own_chs_at hCS (by rw [lCS]; decide)
      have c628 := (V625.keep K627 nin0)
      refine k_caload X627 at_125 c628 (by decide) (by decide) (v := (.int (((((((List.replicate 88 (0 : Int32)).set 87 cf).set 0 ca).set 42 cb).set 43 cc).set 44 ce).getD 0 0))) (own_getc' (i := 0) ((((((List.replicate 88 (0 : Int32)).set 87 cf).set 0 ca).set 42 cb).set 43 cc).set 44 ce) (by decide)) (pc' := 126) rfl ?_
      have ge630 : n0 ≤ b627 := by omega
      refine k_castore X627 (w := (((((((List.replicate 88 (0 : Int32)).set 87 cf).set 0 ca).set 42 cb).set 43 cc).set 44 ce).getD 0 0)) (0) at_126 Vh (by decide) (by decide) rfl (by simp) (own_i2c_id rg0.1 rg0.2) (vs' := (((List.replicate 43 (0 : Int32)).set 0 (((((((List.replicate 88 (0 : Int32)).set 87 cf).set 0 ca).set 42 cb).set 43 cc).set 44 ce).getD 0 0)).map Value.int)) (own_mset _ _ _) S627 ge630 (pc' := 127) rfl fun T629 h629 L629 X629 K629 V629 => ?_
      have sz_h629 := K629.1
      have K0_h629 : Keep h0 h629 [] := K0_h627.trans K629 (allS (Or.inr (by omega)) all0)
      refine k_iload X629 at_127 rfl (pc' := 129) rfl ?_
      refine k_bipush X629 at_129 (w := (42 : Int32)) rfl (pc' := 131) rfl ?_
      refine k_icmpNo X629 at_131 (by decide) (pc' := 134) rfl ?_
      refine k_aload X629 at_134 rfl rfl (pc' := 136) rfl ?_
      refine k_bipush X629 at_136 (w := (42 : Int32)) rfl (pc' := 138) rfl ?_
      refine k_aload X629 at_138 rfl rfl (pc' := 140) rfl ?_
      refine k_bipush X629 at_140 (w := (42 : Int32)) rfl (pc' := 142) rfl ?_
      have rg42 : ¬ (((((((List.replicate 88 (0 : Int32)).set 87 cf).set 0 ca).set 42 cb).set 43 cc).set 44 ce).getD 42 0) < 0 ∧ ¬ 65535 < (((((((List.replicate 88 (0 : Int32)).set 87 cf).set 0 ca).set 42 cb).set 43 cc).set 44 ce).getD 42 0) := own_chs_at hCS (by rw [lCS]; decide)
      have c631 := (c628.keep K629 (ninS (own_ne (by omega) : t_473 ≠ b627) nin0))
      refine k_caload X629 at_142 c631 (by decide) (by decide) (v := (.int (((((((List.replicate 88 (0 : Int32)).set 87 cf).set 0 ca).set 42 cb).set 43 cc).set 44 ce).getD 42 0))) (own_getc' (i := 42) ((((((List.replicate 88 (0 : Int32)).set 87 cf).set 0 ca).set 42 cb).set 43 cc).set 44 ce) (by decide)) (pc' := 143) rfl ?_
      have c633 := (X627.sf K629 (allS ⟨S627, ge630⟩ all0) S627)
      have ge634 : n0 ≤ b627 := by omega
      refine k_castore X629 (w := (((((((List.replicate 88 (0 : Int32)).set 87 cf).set 0 ca).set 42 cb).set 43 cc).set 44 ce).getD 42 0)) (42) at_143 V629 (by decide) (by decide) rfl (by simp) (own_i2c_id rg42.1 rg42.2) (vs' := ((((List.replicate 43 (0 : Int32)).set 0 (((((((List.replicate 88 (0 : Int32)).set 87 cf).set 0 ca).set 42 cb).set 43 cc).set 44 ce).getD 0 0)).set 42 (((((((List.replicate 88 (0 : Int32)).set 87 cf).set 0 ca).set 42 cb).set 43 cc).set 44 ce).getD 42 0)).map Value.int)) (own_mset _ _ _) c633 ge634 (pc' := 144) rfl fun T632 h632 L632 X632 K632 V632 => ?_
      have sz_h632 := K632.1
      have K0_h632 : Keep h0 h632 [] := K0_h629.trans K632 (allS (Or.inr (by omega)) all0)
      have hHS : own_chs (((List.replicate 43 (0 : Int32)).set 0 (((((((List.replicate 88 (0 : Int32)).set 87 cf).set 0 ca).set 42 cb).set 43 cc).set 44 ce).getD 0 0)).set 42 (((((((List.replicate 88 (0 : Int32)).set 87 cf).set 0 ca).set 42 cb).set 43 cc).set 44 ce).getD 42 0)) := (own_chs_set (own_chs_set (own_chs_rep 43) rg0) rg42)
      have lHS : (((List.replicate 43 (0 : Int32)).set 0 (((((((List.replicate 88 (0 : Int32)).set 87 cf).set 0 ca).set 42 cb).set 43 cc).set 44 ce).getD 0 0)).set 42 (((((((List.replicate 88 (0 : Int32)).set 87 cf).set 0 ca).set 42 cb).set 43 cc).set 44 ce).getD 42 0)).length = 43 := by simp
      have hab : ¬ own_tok ((((((List.replicate 88 (0 : Int32)).set 87 cf).set 0 ca).set 42 cb).set 43 cc).set 44 ce) := fun q => absurd (lCS.symm.trans q.1) (by decide)
      refine k_iload X632 at_144 rfl (pc' := 146) rfl ?_
      refine k_bipush X632 at_146 (w := (87 : Int32)) rfl (pc' := 148) rfl ?_
      refine k_icmpYes X632 at_148 (by decide) (pc' := 165) (by decide) (by decide) ?_
      refine k_iconst X632 at_165 (w := (0 : Int32)) rfl (pc' := 166) rfl ?_
      refine k_istore X632 at_166 (Ls' := #[.val (.int p0), .val (.int p1), .val (.int p2), .val (.int p3), .val (.int p4), .val (.int p5), .val (.ref t_473), .val (.int (0 : Int32)), .val (.int (88 : Int32)), .val (.ref b627), .val (.int (0 : Int32)), .unset, .unset, .unset]) rfl (pc' := 168) rfl ?_
      refine k_newO X632 at_168 (w_5 hw) (w_6 hw) (w_7 hw) (by decide) (by decide) (pc' := 171) rfl fun T635 h635 b635 g635 X635 K635 E635 D635 S635 lt635 ge635 => ?_
      have sz_h635 := K635.1
      have K0_h635 : Keep h0 h635 [] := K0_h632.trans K635 all0
      have Fn635_coder : Fld Z h635 b635 "java/lang/String" "coder" "B" (.int (0 : Int32)) := D635 (Or.inr (w_31 hw)) (ty := .byte) (by decide)
      have Fn635_value : Fld Z h635 b635 "java/lang/String" "value" "[B" .null := D635 (Or.inr (w_33 hw)) (ty := (.array .byte)) (by decide)
      refine k_dup X635 at_171 rfl (pc' := 172) rfl ?_
      refine k_aload X635 at_172 rfl rfl (pc' := 174) rfl ?_
      have c636 := ((c631.keep K632 (ninS (own_ne (by omega) : t_473 ≠ b627) nin0)).keep K635 nin0)
      have ge642 : n0 ≤ b635 := by omega
      refine k_callPNF X635 (y := (⟨"java/lang/String", "<init>", "([C)V"⟩ : MethodName)) at_174 (w_8 hw) (w_9 hw) (w_7 hw) (w_10 hw) (by decide) rfl rfl (argsL := [(.ref t_473)]) (rest := [(.ref b635)]) (own_initS l Z a0 hw G n0 h635 X635.old b635 t_473 kt_474 (88 : Int32) (((((((List.replicate 88 (0 : Int32)).set 87 cf).set 0 ca).set 42 cb).set 43 cc).set 44 ce).map Value.int) ((((((List.replicate 88 (0 : Int32)).set 87 cf).set 0 ca).set 42 cb).set 43 cc).set 44 ce) rfl (by rw [lCS]; rfl) (by rw [lCS]; decide) (by rw [lCS]; decide) (by omega) E635 Fn635_value Fn635_coder c636) rfl pd_31 rfl rfl (by decide) (W := 1) (Nat.le_of_eq rfl) (by decide) (by decide) (by decide) (allS ⟨S635, ge642⟩ all0) (pc' := 177) rfl ?_
      rintro T643 h643 L643 X643 K643 ⟨t_637, kt_638, cd_639, zz_640, bs_641, q643_0, q643_1, q643_2, q643_3, q643_4, q643_5⟩
      have sz_h643 := K643.1
      have K0_h643 : Keep h0 h643 [] := K0_h635.trans K643 (allS (Or.inr (by omega)) all0)
      have lt643_0 := own_n q643_0.lt
      have lt643_1 := own_n q643_1.lt
      have lt643_2 := own_n q643_2.lt
      have lt643_3 := own_n q643_3.lt
      refine k_astore X643 at_177 rfl (Ls' := #[.val (.int p0), .val (.int p1), .val (.int p2), .val (.int p3), .val (.int p4), .val (.int p5), .val (.ref t_473), .val (.int (0 : Int32)), .val (.int (88 : Int32)), .val (.ref b627), .val (.int (0 : Int32)), .val (.ref b635), .unset, .unset]) rfl (pc' := 179) rfl ?_
      have c644 := ((V632.keep K635 nin0).keep K643 (ninS (own_ne (by omega) : b627 ≠ b635) nin0))
      exact tail _ _ _ _ _ _ _ _ _ _ _ _ _ _ _ _ ((((((List.replicate 88 (0 : Int32)).set 87 cf).set 0 ca).set 42 cb).set 43 cc).set 44 ce) (((List.replicate 43 (0 : Int32)).set 0 (((((((List.replicate 88 (0 : Int32)).set 87 cf).set 0 ca).set 42 cb).set 43 cc).set 44 ce).getD 0 0)).set 42 (((((((List.replicate 88 (0 : Int32)).set 87 cf).set 0 ca).set 42 cb).set 43 cc).set 44 ce).getD 42 0)) hCS (by rw [lCS]; decide) hHS lHS (Or.inr ⟨rfl, hab⟩) q643_5 (X643.up (by decide) (by decide)) K0_h643 q643_0 q643_2 q643_1 q643_3 c644
    · refine k_ifNo X476 at_14 ((if0 _ _).trans (feq hc616).1) (pc' := 17) rfl ?_
      refine k_iconst X476 at_17 (w := (1 : Int32)) rfl (pc' := 18) rfl ?_
      refine k_goto X476 at_18 (pc' := 22) (by decide) (by decide) ?_
      refine k_istore X476 at_22 (Ls' := #[.val (.int p0), .val (.int p1), .val (.int p2), .val (.int p3), .val (.int p4), .val (.int p5), .val (.ref t_473), .val (.int (1 : Int32)), .unset, .unset, .unset, .unset, .unset, .unset]) rfl (pc' := 24) rfl ?_
      refine k_aload X476 at_24 rfl rfl (pc' := 26) rfl ?_
      refine k_arlen X476 at_26 q476_0 (pc' := 27) rfl ?_
      refine k_istore X476 at_27 (Ls' := #[.val (.int p0), .val (.int p1), .val (.int p2), .val (.int p3), .val (.int p4), .val (.int p5), .val (.ref t_473), .val (.int (1 : Int32)), .val (.int (88 : Int32)), .unset, .unset, .unset, .unset, .unset]) rfl (pc' := 29) rfl ?_
      refine k_iload X476 at_29 rfl (pc' := 31) rfl ?_
      refine k_ifNo X476 at_31 (by decide) (pc' := 34) rfl ?_
      refine k_aload X476 at_34 rfl rfl (pc' := 36) rfl ?_
      refine k_iload X476 at_36 rfl (pc' := 38) rfl ?_
      refine k_iconst X476 at_38 (w := (1 : Int32)) rfl (pc' := 39) rfl ?_
      refine k_isub X476 at_39 (w := (87 : Int32)) (by decide) (pc' := 40) rfl ?_
      refine k_iload X476 at_40 rfl (pc' := 42) rfl ?_
      refine k_i2c X476 at_42 (w := cf) hcf (pc' := 43) rfl ?_
      have ge646 : n0 ≤ t_473 := by omega
      refine k_castore X476 (w := cf) (87) at_43 q476_0 (by decide) (by decide) rfl (by simp) (own_i2c_id rcf.1 rcf.2) (vs' := (((List.replicate 88 (0 : Int32)).set 87 cf).map Value.int)) (own_mset _ _ _) (X476.sfA q476_0) ge646 (pc' := 44) rfl fun T645 h645 L645 X645 K645 V645 => ?_
      have sz_h645 := K645.1
      have K0_h645 : Keep h0 h645 [] := K0_h476.trans K645 (allS (Or.inr (by omega)) all0)
      refine k_iload X645 at_44 rfl (pc' := 46) rfl ?_
      refine k_ifNo X645 at_46 (by decide) (pc' := 49) rfl ?_
      refine k_aload X645 at_49 rfl rfl (pc' := 51) rfl ?_
      refine k_iconst X645 at_51 (w := (0 : Int32)) rfl (pc' := 52) rfl ?_
      refine k_iloadN X645 at_52 rfl (pc' := 53) rfl ?_
      refine k_i2c X645 at_53 (w := ca) hca (pc' := 54) rfl ?_
      have ge648 : n0 ≤ t_473 := by omega
      refine k_castore X645 (w := ca) (0) at_54 V645 (by decide) (by decide) rfl (by simp) (own_i2c_id rca.1 rca.2) (vs' := ((((List.replicate 88 (0 : Int32)).set 87 cf).set 0 ca).map Value.int)) (own_mset _ _ _) (X645.sfA V645) ge648 (pc' := 55) rfl fun T647 h647 L647 X647 K647 V647 => ?_
      have sz_h647 := K647.1
      have K0_h647 : Keep h0 h647 [] := K0_h645.trans K647 (allS (Or.inr (by omega)) all0)
      refine k_iload X647 at_55 rfl (pc' := 57) rfl ?_
      refine k_bipush X647 at_57 (w := (42 : Int32)) rfl (pc' := 59) rfl ?_
      refine k_icmpNo X647 at_59 (by decide) (pc' := 62) rfl ?_
      refine k_aload X647 at_62 rfl rfl (pc' := 64) rfl ?_
      refine k_bipush X647 at_64 (w := (42 : Int32)) rfl (pc' := 66) rfl ?_
      refine k_iloadN X647 at_66 rfl (pc' := 67) rfl ?_
      refine k_i2c X647 at_67 (w := cb) hcb (pc' := 68) rfl ?_
      have ge650 : n0 ≤ t_473 := by omega
      refine k_castore X647 (w := cb) (42) at_68 V647 (by decide) (by decide) rfl (by simp) (own_i2c_id rcb.1 rcb.2) (vs' := (((((List.replicate 88 (0 : Int32)).set 87 cf).set 0 ca).set 42 cb).map Value.int)) (own_mset _ _ _) (X647.sfA V647) ge650 (pc' := 69) rfl fun T649 h649 L649 X649 K649 V649 => ?_
      have sz_h649 := K649.1
      have K0_h649 : Keep h0 h649 [] := K0_h647.trans K649 (allS (Or.inr (by omega)) all0)
      refine k_iload X649 at_69 rfl (pc' := 71) rfl ?_
      refine k_bipush X649 at_71 (w := (43 : Int32)) rfl (pc' := 73) rfl ?_
      refine k_icmpNo X649 at_73 (by decide) (pc' := 76) rfl ?_
      refine k_aload X649 at_76 rfl rfl (pc' := 78) rfl ?_
      refine k_bipush X649 at_78 (w := (43 : Int32)) rfl (pc' := 80) rfl ?_
      refine k_iload X649 at_80 rfl (pc' := 82) rfl ?_
      refine k_ifNo X649 at_82 (by decide) (pc' := 85) rfl ?_
      refine k_bipush X649 at_85 (w := (46 : Int32)) rfl (pc' := 87) rfl ?_
      refine k_goto X649 at_87 (pc' := 92) (by decide) (by decide) ?_
      have ge652 : n0 ≤ t_473 := by omega
      refine k_castore X649 (w := (46 : Int32)) (43) at_92 V649 (by decide) (by decide) rfl (by simp) (own_i2c_id own_46.1 own_46.2) (vs' := ((((((List.replicate 88 (0 : Int32)).set 87 cf).set 0 ca).set 42 cb).set 43 (46 : Int32)).map Value.int)) (own_mset _ _ _) (X649.sfA V649) ge652 (pc' := 93) rfl fun T651 h651 L651 X651 K651 V651 => ?_
      have sz_h651 := K651.1
      have K0_h651 : Keep h0 h651 [] := K0_h649.trans K651 (allS (Or.inr (by omega)) all0)
      refine k_iload X651 at_93 rfl (pc' := 95) rfl ?_
      refine k_bipush X651 at_95 (w := (44 : Int32)) rfl (pc' := 97) rfl ?_
      refine k_icmpNo X651 at_97 (by decide) (pc' := 100) rfl ?_
      refine k_aload X651 at_100 rfl rfl (pc' := 102) rfl ?_
      refine k_bipush X651 at_102 (w := (44 : Int32)) rfl (pc' := 104) rfl ?_
      refine k_iload X651 at_104 rfl (pc' := 106) rfl ?_
      refine k_i2c X651 at_106 (w := ce) hce (pc' := 107) rfl ?_
      have ge654 : n0 ≤ t_473 := by omega
      refine k_castore X651 (w := ce) (44) at_107 V651 (by decide) (by decide) rfl (by simp) (own_i2c_id rce.1 rce.2) (vs' := (((((((List.replicate 88 (0 : Int32)).set 87 cf).set 0 ca).set 42 cb).set 43 (46 : Int32)).set 44 ce).map Value.int)) (own_mset _ _ _) (X651.sfA V651) ge654 (pc' := 108) rfl fun T653 h653 L653 X653 K653 V653 => ?_
      have sz_h653 := K653.1
      have K0_h653 : Keep h0 h653 [] := K0_h651.trans K653 (allS (Or.inr (by omega)) all0)
      refine k_bipush X653 at_108 (w := (43 : Int32)) rfl (pc' := 110) rfl ?_
      refine k_newP X653 at_110 (w_4 hw) (by decide) (cap := 43) (by decide) (by decide) (by decide) (by decide) (pc' := 112) rfl fun T655 h655 b655 k655 g655 X655 K655 V655 S655 lt655 ge655 => ?_
      have sz_h655 := K655.1
      have K0_h655 : Keep h0 h655 [] := K0_h653.trans K655 all0
      have Vh : Arv Z h655 b655 k655 .char (43 : Int32) ((List.replicate 43 (0 : Int32)).map Value.int) (.int (0 : Int32)) := Arv.pad V655 (own_padz 43)
      have hCS : own_chs ((((((List.replicate 88 (0 : Int32)).set 87 cf).set 0 ca).set 42 cb).set 43 (46 : Int32)).set 44 ce) := (own_chs_set (own_chs_set (own_chs_set (own_chs_set (own_chs_set (own_chs_rep 88) rcf) rca) rcb) own_46) rce)
      have lCS : ((((((List.replicate 88 (0 : Int32)).set 87 cf).set 0 ca).set 42 cb).set 43 (46 : Int32)).set 44 ce).length = 88 := by simp
      refine k_astore X655 at_112 rfl (Ls' := #[.val (.int p0), .val (.int p1), .val (.int p2), .val (.int p3), .val (.int p4), .val (.int p5), .val (.ref t_473), .val (.int (1 : Int32)), .val (.int (88 : Int32)), .val (.ref b655), .unset, .unset, .unset, .unset]) rfl (pc' := 114) rfl ?_
      refine k_iload X655 at_114 rfl (pc' := 116) rfl ?_
      refine k_ifNo X655 at_116 (by decide) (pc' := 119) rfl ?_
      refine k_aload X655 at_119 rfl rfl (pc' := 121) rfl ?_
      refine k_iconst X655 at_121 (w := (0 : Int32)) rfl (pc' := 122) rfl ?_
      refine k_aload X655 at_122 rfl rfl (pc' := 124) rfl ?_
      refine k_iconst X655 at_124 (w := (0 : Int32)) rfl (pc' := 125) rfl ?_
      have rg0 : ¬ (((((((List.replicate 88 (0 : Int32)).set 87 cf).set 0 ca).set 42 cb).set 43 (46 : Int32)).set 44 ce).getD 0 0) < 0 ∧ ¬ 65535 < (((((((List.replicate 88 (0 : Int32)).set 87 cf).set 0 ca).set 42 cb).set 43 (46 : Int32)).set 44 ce).getD 0 0) := own_chs_at hCS (by rw [lCS]; decide)
      have c656 := (V653.keep K655 nin0)
      refine k_caload X655 at_125 c656 (by decide) (by decide) (v := (.int (((((((List.replicate 88 (0 : Int32)).set 87 cf).set 0 ca).set 42 cb).set 43 (46 : Int32)).set 44 ce).getD 0 0))) (own_getc' (i := 0) ((((((List.replicate 88 (0 : Int32)).set 87 cf).set 0 ca).set 42 cb).set 43 (46 : Int32)).set 44 ce) (by decide)) (pc' := 126) rfl ?_
      have ge658 : n0 ≤ b655 := by omega
      refine k_castore X655 (w := (((((((List.replicate 88 (0 : Int32)).set 87 cf).set 0 ca).set 42 cb).set 43 (46 : Int32)).set 44 ce).getD 0 0)) (0) at_126 Vh (by decide) (by decide) rfl (by simp) (own_i2c_id rg0.1 rg0.2) (vs' := (((List.replicate 43 (0 : Int32)).set 0 (((((((List.replicate 88 (0 : Int32)).set 87 cf).set 0 ca).set 42 cb).set 43 (46 : Int32)).set 44 ce).getD 0 0)).map Value.int)) (own_mset _ _ _) S655 ge658 (pc' := 127) rfl fun T657 h657 L657 X657 K657 V657 => ?_
      have sz_h657 := K657.1
      have K0_h657 : Keep h0 h657 [] := K0_h655.trans K657 (allS (Or.inr (by omega)) all0)
      refine k_iload X657 at_127 rfl (pc' := 129) rfl ?_
      refine k_bipush X657 at_129 (w := (42 : Int32)) rfl (pc' := 131) rfl ?_
      refine k_icmpNo X657 at_131 (by decide) (pc' := 134) rfl ?_
      refine k_aload X657 at_134 rfl rfl (pc' := 136) rfl ?_
      refine k_bipush X657 at_136 (w := (42 : Int32)) rfl (pc' := 138) rfl ?_
      refine k_aload X657 at_138 rfl rfl (pc' := 140) rfl ?_
      refine k_bipush X657 at_140 (w := (42 : Int32)) rfl (pc' := 142) rfl ?_
      have rg42 : ¬ (((((((List.replicate 88 (0 : Int32)).set 87 cf).set 0 ca).set 42 cb).set 43 (46 : Int32)).set 44 ce).getD 42 0) < 0 ∧ ¬ 65535 < (((((((List.replicate 88 (0 : Int32)).set 87 cf).set 0 ca).set 42 cb).set 43 (46 : Int32)).set 44 ce).getD 42 0) := own_chs_at hCS (by rw [lCS]; decide)
      have c659 := (c656.keep K657 (ninS (own_ne (by omega) : t_473 ≠ b655) nin0))
      refine k_caload X657 at_142 c659 (by decide) (by decide) (v := (.int (((((((List.replicate 88 (0 : Int32)).set 87 cf).set 0 ca).set 42 cb).set 43 (46 : Int32)).set 44 ce).getD 42 0))) (own_getc' (i := 42) ((((((List.replicate 88 (0 : Int32)).set 87 cf).set 0 ca).set 42 cb).set 43 (46 : Int32)).set 44 ce) (by decide)) (pc' := 143) rfl ?_
      have c661 := (X655.sf K657 (allS ⟨S655, ge658⟩ all0) S655)
      have ge662 : n0 ≤ b655 := by omega
      refine k_castore X657 (w := (((((((List.replicate 88 (0 : Int32)).set 87 cf).set 0 ca).set 42 cb).set 43 (46 : Int32)).set 44 ce).getD 42 0)) (42) at_143 V657 (by decide) (by decide) rfl (by simp) (own_i2c_id rg42.1 rg42.2) (vs' := ((((List.replicate 43 (0 : Int32)).set 0 (((((((List.replicate 88 (0 : Int32)).set 87 cf).set 0 ca).set 42 cb).set 43 (46 : Int32)).set 44 ce).getD 0 0)).set 42 (((((((List.replicate 88 (0 : Int32)).set 87 cf).set 0 ca).set 42 cb).set 43 (46 : Int32)).set 44 ce).getD 42 0)).map Value.int)) (own_mset _ _ _) c661 ge662 (pc' := 144) rfl fun T660 h660 L660 X660 K660 V660 => ?_
      have sz_h660 := K660.1
      have K0_h660 : Keep h0 h660 [] := K0_h657.trans K660 (allS (Or.inr (by omega)) all0)
      have hHS : own_chs (((List.replicate 43 (0 : Int32)).set 0 (((((((List.replicate 88 (0 : Int32)).set 87 cf).set 0 ca).set 42 cb).set 43 (46 : Int32)).set 44 ce).getD 0 0)).set 42 (((((((List.replicate 88 (0 : Int32)).set 87 cf).set 0 ca).set 42 cb).set 43 (46 : Int32)).set 44 ce).getD 42 0)) := (own_chs_set (own_chs_set (own_chs_rep 43) rg0) rg42)
      have lHS : (((List.replicate 43 (0 : Int32)).set 0 (((((((List.replicate 88 (0 : Int32)).set 87 cf).set 0 ca).set 42 cb).set 43 (46 : Int32)).set 44 ce).getD 0 0)).set 42 (((((((List.replicate 88 (0 : Int32)).set 87 cf).set 0 ca).set 42 cb).set 43 (46 : Int32)).set 44 ce).getD 42 0)).length = 43 := by simp
      have hab : ¬ own_tok ((((((List.replicate 88 (0 : Int32)).set 87 cf).set 0 ca).set 42 cb).set 43 (46 : Int32)).set 44 ce) := fun q => absurd (lCS.symm.trans q.1) (by decide)
      refine k_iload X660 at_144 rfl (pc' := 146) rfl ?_
      refine k_bipush X660 at_146 (w := (87 : Int32)) rfl (pc' := 148) rfl ?_
      refine k_icmpYes X660 at_148 (by decide) (pc' := 165) (by decide) (by decide) ?_
      refine k_iconst X660 at_165 (w := (0 : Int32)) rfl (pc' := 166) rfl ?_
      refine k_istore X660 at_166 (Ls' := #[.val (.int p0), .val (.int p1), .val (.int p2), .val (.int p3), .val (.int p4), .val (.int p5), .val (.ref t_473), .val (.int (1 : Int32)), .val (.int (88 : Int32)), .val (.ref b655), .val (.int (0 : Int32)), .unset, .unset, .unset]) rfl (pc' := 168) rfl ?_
      refine k_newO X660 at_168 (w_5 hw) (w_6 hw) (w_7 hw) (by decide) (by decide) (pc' := 171) rfl fun T663 h663 b663 g663 X663 K663 E663 D663 S663 lt663 ge663 => ?_
      have sz_h663 := K663.1
      have K0_h663 : Keep h0 h663 [] := K0_h660.trans K663 all0
      have Fn663_coder : Fld Z h663 b663 "java/lang/String" "coder" "B" (.int (0 : Int32)) := D663 (Or.inr (w_31 hw)) (ty := .byte) (by decide)
      have Fn663_value : Fld Z h663 b663 "java/lang/String" "value" "[B" .null := D663 (Or.inr (w_33 hw)) (ty := (.array .byte)) (by decide)
      refine k_dup X663 at_171 rfl (pc' := 172) rfl ?_
      refine k_aload X663 at_172 rfl rfl (pc' := 174) rfl ?_
      have c664 := ((c659.keep K660 (ninS (own_ne (by omega) : t_473 ≠ b655) nin0)).keep K663 nin0)
      have ge670 : n0 ≤ b663 := by omega
      refine k_callPNF X663 (y := (⟨"java/lang/String", "<init>", "([C)V"⟩ : MethodName)) at_174 (w_8 hw) (w_9 hw) (w_7 hw) (w_10 hw) (by decide) rfl rfl (argsL := [(.ref t_473)]) (rest := [(.ref b663)]) (own_initS l Z a0 hw G n0 h663 X663.old b663 t_473 kt_474 (88 : Int32) (((((((List.replicate 88 (0 : Int32)).set 87 cf).set 0 ca).set 42 cb).set 43 (46 : Int32)).set 44 ce).map Value.int) ((((((List.replicate 88 (0 : Int32)).set 87 cf).set 0 ca).set 42 cb).set 43 (46 : Int32)).set 44 ce) rfl (by rw [lCS]; rfl) (by rw [lCS]; decide) (by rw [lCS]; decide) (by omega) E663 Fn663_value Fn663_coder c664) rfl pd_31 rfl rfl (by decide) (W := 1) (Nat.le_of_eq rfl) (by decide) (by decide) (by decide) (allS ⟨S663, ge670⟩ all0) (pc' := 177) rfl ?_
      rintro T671 h671 L671 X671 K671 ⟨t_665, kt_666, cd_667, zz_668, bs_669, q671_0, q671_1, q671_2, q671_3, q671_4, q671_5⟩
      have sz_h671 := K671.1
      have K0_h671 : Keep h0 h671 [] := K0_h663.trans K671 (allS (Or.inr (by omega)) all0)
      have lt671_0 := own_n q671_0.lt
      have lt671_1 := own_n q671_1.lt
      have lt671_2 := own_n q671_2.lt
      have lt671_3 := own_n q671_3.lt
      refine k_astore X671 at_177 rfl (Ls' := #[.val (.int p0), .val (.int p1), .val (.int p2), .val (.int p3), .val (.int p4), .val (.int p5), .val (.ref t_473), .val (.int (1 : Int32)), .val (.int (88 : Int32)), .val (.ref b655), .val (.int (0 : Int32)), .val (.ref b663), .unset, .unset]) rfl (pc' := 179) rfl ?_
      have c672 := ((V660.keep K663 nin0).keep K671 (ninS (own_ne (by omega) : b655 ≠ b663) nin0))
      exact tail _ _ _ _ _ _ _ _ _ _ _ _ _ _ _ _ ((((((List.replicate 88 (0 : Int32)).set 87 cf).set 0 ca).set 42 cb).set 43 (46 : Int32)).set 44 ce) (((List.replicate 43 (0 : Int32)).set 0 (((((((List.replicate 88 (0 : Int32)).set 87 cf).set 0 ca).set 42 cb).set 43 (46 : Int32)).set 44 ce).getD 0 0)).set 42 (((((((List.replicate 88 (0 : Int32)).set 87 cf).set 0 ca).set 42 cb).set 43 (46 : Int32)).set 44 ce).getD 42 0)) hCS (by rw [lCS]; decide) hHS lHS (Or.inr ⟨rfl, hab⟩) q671_5 (X671.up (by decide) (by decide)) K0_h671 q671_0 q671_2 q671_1 q671_3 c672
  · refine k_astore X476 at_7 rfl (Ls' := #[.val (.int p0), .val (.int p1), .val (.int p2), .val (.int p3), .val (.int p4), .val (.int p5), .val (.ref t_473), .unset, .unset, .unset, .unset, .unset, .unset, .unset]) rfl (pc' := 9) rfl ?_
    refine k_iloadN X476 at_9 rfl (pc' := 10) rfl ?_
    refine k_iconst X476 at_10 (w := (3 : Int32)) rfl (pc' := 11) rfl ?_
    refine k_iushr X476 at_11 (w := ((p0.toUInt32 >>> ((3 : Int32) &&& 31).toUInt32).toInt32)) rfl (pc' := 12) rfl ?_
    refine k_iconst X476 at_12 (w := (1 : Int32)) rfl (pc' := 13) rfl ?_
    refine k_iand X476 at_13 (w := (((p0.toUInt32 >>> ((3 : Int32) &&& 31).toUInt32).toInt32) &&& (1 : Int32))) rfl (pc' := 14) rfl ?_
    by_cases hc673 : (((p0.toUInt32 >>> ((3 : Int32) &&& 31).toUInt32).toInt32) &&& (1 : Int32)) = (0 : Int32)
    · refine k_ifYes X476 at_14 ((if0 _ _).trans (teq hc673).1) (pc' := 21) (by decide) (by decide) ?_
      refine k_iconst X476 at_21 (w := (0 : Int32)) rfl (pc' := 22) rfl ?_
      refine k_istore X476 at_22 (Ls' := #[.val (.int p0), .val (.int p1), .val (.int p2), .val (.int p3), .val (.int p4), .val (.int p5), .val (.ref t_473), .val (.int (0 : Int32)), .unset, .unset, .unset, .unset, .unset, .unset]) rfl (pc' := 24) rfl ?_
      refine k_aload X476 at_24 rfl rfl (pc' := 26) rfl ?_
      refine k_arlen X476 at_26 q476_0 (pc' := 27) rfl ?_
      refine k_istore X476 at_27 (Ls' := #[.val (.int p0), .val (.int p1), .val (.int p2), .val (.int p3), .val (.int p4), .val (.int p5), .val (.ref t_473), .val (.int (0 : Int32)), .val (.int (44 : Int32)), .unset, .unset, .unset, .unset, .unset]) rfl (pc' := 29) rfl ?_
      refine k_iload X476 at_29 rfl (pc' := 31) rfl ?_
      refine k_ifNo X476 at_31 (by decide) (pc' := 34) rfl ?_
      refine k_aload X476 at_34 rfl rfl (pc' := 36) rfl ?_
      refine k_iload X476 at_36 rfl (pc' := 38) rfl ?_
      refine k_iconst X476 at_38 (w := (1 : Int32)) rfl (pc' := 39) rfl ?_
      refine k_isub X476 at_39 (w := (43 : Int32)) (by decide) (pc' := 40) rfl ?_
      refine k_iload X476 at_40 rfl (pc' := 42) rfl ?_
      refine k_i2c X476 at_42 (w := cf) hcf (pc' := 43) rfl ?_
      have ge675 : n0 ≤ t_473 := by omega
      refine k_castore X476 (w := cf) (43) at_43 q476_0 (by decide) (by decide) rfl (by simp) (own_i2c_id rcf.1 rcf.2) (vs' := (((List.replicate 44 (0 : Int32)).set 43 cf).map Value.int)) (own_mset _ _ _) (X476.sfA q476_0) ge675 (pc' := 44) rfl fun T674 h674 L674 X674 K674 V674 => ?_
      have sz_h674 := K674.1
      have K0_h674 : Keep h0 h674 [] := K0_h476.trans K674 (allS (Or.inr (by omega)) all0)
      refine k_iload X674 at_44 rfl (pc' := 46) rfl ?_
      refine k_ifNo X674 at_46 (by decide) (pc' := 49) rfl ?_
      refine k_aload X674 at_49 rfl rfl (pc' := 51) rfl ?_
      refine k_iconst X674 at_51 (w := (0 : Int32)) rfl (pc' := 52) rfl ?_
      refine k_iloadN X674 at_52 rfl (pc' := 53) rfl ?_
      refine k_i2c X674 at_53 (w := ca) hca (pc' := 54) rfl ?_
      have ge677 : n0 ≤ t_473 := by omega
      refine k_castore X674 (w := ca) (0) at_54 V674 (by decide) (by decide) rfl (by simp) (own_i2c_id rca.1 rca.2) (vs' := ((((List.replicate 44 (0 : Int32)).set 43 cf).set 0 ca).map Value.int)) (own_mset _ _ _) (X674.sfA V674) ge677 (pc' := 55) rfl fun T676 h676 L676 X676 K676 V676 => ?_
      have sz_h676 := K676.1
      have K0_h676 : Keep h0 h676 [] := K0_h674.trans K676 (allS (Or.inr (by omega)) all0)
      refine k_iload X676 at_55 rfl (pc' := 57) rfl ?_
      refine k_bipush X676 at_57 (w := (42 : Int32)) rfl (pc' := 59) rfl ?_
      refine k_icmpNo X676 at_59 (by decide) (pc' := 62) rfl ?_
      refine k_aload X676 at_62 rfl rfl (pc' := 64) rfl ?_
      refine k_bipush X676 at_64 (w := (42 : Int32)) rfl (pc' := 66) rfl ?_
      refine k_iloadN X676 at_66 rfl (pc' := 67) rfl ?_
      refine k_i2c X676 at_67 (w := cb) hcb (pc' := 68) rfl ?_
      have ge679 : n0 ≤ t_473 := by omega
      refine k_castore X676 (w := cb) (42) at_68 V676 (by decide) (by decide) rfl (by simp) (own_i2c_id rcb.1 rcb.2) (vs' := (((((List.replicate 44 (0 : Int32)).set 43 cf).set 0 ca).set 42 cb).map Value.int)) (own_mset _ _ _) (X676.sfA V676) ge679 (pc' := 69) rfl fun T678 h678 L678 X678 K678 V678 => ?_
      have sz_h678 := K678.1
      have K0_h678 : Keep h0 h678 [] := K0_h676.trans K678 (allS (Or.inr (by omega)) all0)
      refine k_iload X678 at_69 rfl (pc' := 71) rfl ?_
      refine k_bipush X678 at_71 (w := (43 : Int32)) rfl (pc' := 73) rfl ?_
      refine k_icmpNo X678 at_73 (by decide) (pc' := 76) rfl ?_
      refine k_aload X678 at_76 rfl rfl (pc' := 78) rfl ?_
      refine k_bipush X678 at_78 (w := (43 : Int32)) rfl (pc' := 80) rfl ?_
      refine k_iload X678 at_80 rfl (pc' := 82) rfl ?_
      refine k_ifYes X678 at_82 (by decide) (pc' := 90) (by decide) (by decide) ?_
      refine k_iloadN X678 at_90 rfl (pc' := 91) rfl ?_
      refine k_i2c X678 at_91 (w := cc) hcc (pc' := 92) rfl ?_
      have ge681 : n0 ≤ t_473 := by omega
      refine k_castore X678 (w := cc) (43) at_92 V678 (by decide) (by decide) rfl (by simp) (own_i2c_id rcc.1 rcc.2) (vs' := ((((((List.replicate 44 (0 : Int32)).set 43 cf).set 0 ca).set 42 cb).set 43 cc).map Value.int)) (own_mset _ _ _) (X678.sfA V678) ge681 (pc' := 93) rfl fun T680 h680 L680 X680 K680 V680 => ?_
      have sz_h680 := K680.1
      have K0_h680 : Keep h0 h680 [] := K0_h678.trans K680 (allS (Or.inr (by omega)) all0)
      refine k_iload X680 at_93 rfl (pc' := 95) rfl ?_
      refine k_bipush X680 at_95 (w := (44 : Int32)) rfl (pc' := 97) rfl ?_
      refine k_icmpYes X680 at_97 (by decide) (pc' := 108) (by decide) (by decide) ?_
      refine k_bipush X680 at_108 (w := (43 : Int32)) rfl (pc' := 110) rfl ?_
      refine k_newP X680 at_110 (w_4 hw) (by decide) (cap := 43) (by decide) (by decide) (by decide) (by decide) (pc' := 112) rfl fun T682 h682 b682 k682 g682 X682 K682 V682 S682 lt682 ge682 => ?_
      have sz_h682 := K682.1
      have K0_h682 : Keep h0 h682 [] := K0_h680.trans K682 all0
      have Vh : Arv Z h682 b682 k682 .char (43 : Int32) ((List.replicate 43 (0 : Int32)).map Value.int) (.int (0 : Int32)) := Arv.pad V682 (own_padz 43)
      have hCS : own_chs (((((List.replicate 44 (0 : Int32)).set 43 cf).set 0 ca).set 42 cb).set 43 cc) := (own_chs_set (own_chs_set (own_chs_set (own_chs_set (own_chs_rep 44) rcf) rca) rcb) rcc)
      have lCS : (((((List.replicate 44 (0 : Int32)).set 43 cf).set 0 ca).set 42 cb).set 43 cc).length = 44 := by simp
      refine k_astore X682 at_112 rfl (Ls' := #[.val (.int p0), .val (.int p1), .val (.int p2), .val (.int p3), .val (.int p4), .val (.int p5), .val (.ref t_473), .val (.int (0 : Int32)), .val (.int (44 : Int32)), .val (.ref b682), .unset, .unset, .unset, .unset]) rfl (pc' := 114) rfl ?_
      refine k_iload X682 at_114 rfl (pc' := 116) rfl ?_
      refine k_ifNo X682 at_116 (by decide) (pc' := 119) rfl ?_
      refine k_aload X682 at_119 rfl rfl (pc' := 121) rfl ?_
      refine k_iconst X682 at_121 (w := (0 : Int32)) rfl (pc' := 122) rfl ?_
      refine k_aload X682 at_122 rfl rfl (pc' := 124) rfl ?_
      refine k_iconst X682 at_124 (w := (0 : Int32)) rfl (pc' := 125) rfl ?_
      have rg0 : ¬ ((((((List.replicate 44 (0 : Int32)).set 43 cf).set 0 ca).set 42 cb).set 43 cc).getD 0 0) < 0 ∧ ¬ 65535 < ((((((List.replicate 44 (0 : Int32)).set 43 cf).set 0 ca).set 42 cb).set 43 cc).getD 0 0) := own_chs_at hCS (by rw [lCS]; decide)
      have c683 := (V680.keep K682 nin0)
      refine k_caload X682 at_125 c683 (by decide) (by decide) (v := (.int ((((((List.replicate 44 (0 : Int32)).set 43 cf).set 0 ca).set 42 cb).set 43 cc).getD 0 0))) (own_getc' (i := 0) (((((List.replicate 44 (0 : Int32)).set 43 cf).set 0 ca).set 42 cb).set 43 cc) (by decide)) (pc' := 126) rfl ?_
      have ge685 : n0 ≤ b682 := by omega
      refine k_castore X682 (w := ((((((List.replicate 44 (0 : Int32)).set 43 cf).set 0 ca).set 42 cb).set 43 cc).getD 0 0)) (0) at_126 Vh (by decide) (by decide) rfl (by simp) (own_i2c_id rg0.1 rg0.2) (vs' := (((List.replicate 43 (0 : Int32)).set 0 ((((((List.replicate 44 (0 : Int32)).set 43 cf).set 0 ca).set 42 cb).set 43 cc).getD 0 0)).map Value.int)) (own_mset _ _ _) S682 ge685 (pc' := 127) rfl fun T684 h684 L684 X684 K684 V684 => ?_
      have sz_h684 := K684.1
      have K0_h684 : Keep h0 h684 [] := K0_h682.trans K684 (allS (Or.inr (by omega)) all0)
      refine k_iload X684 at_127 rfl (pc' := 129) rfl ?_
      refine k_bipush X684 at_129 (w := (42 : Int32)) rfl (pc' := 131) rfl ?_
      refine k_icmpNo X684 at_131 (by decide) (pc' := 134) rfl ?_
      refine k_aload X684 at_134 rfl rfl (pc' := 136) rfl ?_
      refine k_bipush X684 at_136 (w := (42 : Int32)) rfl (pc' := 138) rfl ?_
      refine k_aload X684 at_138 rfl rfl (pc' := 140) rfl ?_
      refine k_bipush X684 at_140 (w := (42 : Int32)) rfl (pc' := 142) rfl ?_
      have rg42 : ¬ ((((((List.replicate 44 (0 : Int32)).set 43 cf).set 0 ca).set 42 cb).set 43 cc).getD 42 0) < 0 ∧ ¬ 65535 < ((((((List.replicate 44 (0 : Int32)).set 43 cf).set 0 ca).set 42 cb).set 43 cc).getD 42 0) := own_chs_at hCS (by rw [lCS]; decide)
      have c686 := (c683.keep K684 (ninS (own_ne (by omega) : t_473 ≠ b682) nin0))
      refine k_caload X684 at_142 c686 (by decide) (by decide) (v := (.int ((((((List.replicate 44 (0 : Int32)).set 43 cf).set 0 ca).set 42 cb).set 43 cc).getD 42 0))) (own_getc' (i := 42) (((((List.replicate 44 (0 : Int32)).set 43 cf).set 0 ca).set 42 cb).set 43 cc) (by decide)) (pc' := 143) rfl ?_
      have c688 := (X682.sf K684 (allS ⟨S682, ge685⟩ all0) S682)
      have ge689 : n0 ≤ b682 := by omega
      refine k_castore X684 (w := ((((((List.replicate 44 (0 : Int32)).set 43 cf).set 0 ca).set 42 cb).set 43 cc).getD 42 0)) (42) at_143 V684 (by decide) (by decide) rfl (by simp) (own_i2c_id rg42.1 rg42.2) (vs' := ((((List.replicate 43 (0 : Int32)).set 0 ((((((List.replicate 44 (0 : Int32)).set 43 cf).set 0 ca).set 42 cb).set 43 cc).getD 0 0)).set 42 ((((((List.replicate 44 (0 : Int32)).set 43 cf).set 0 ca).set 42 cb).set 43 cc).getD 42 0)).map Value.int)) (own_mset _ _ _) c688 ge689 (pc' := 144) rfl fun T687 h687 L687 X687 K687 V687 => ?_
      have sz_h687 := K687.1
      have K0_h687 : Keep h0 h687 [] := K0_h684.trans K687 (allS (Or.inr (by omega)) all0)
      have hHS : own_chs (((List.replicate 43 (0 : Int32)).set 0 ((((((List.replicate 44 (0 : Int32)).set 43 cf).set 0 ca).set 42 cb).set 43 cc).getD 0 0)).set 42 ((((((List.replicate 44 (0 : Int32)).set 43 cf).set 0 ca).set 42 cb).set 43 cc).getD 42 0)) := (own_chs_set (own_chs_set (own_chs_rep 43) rg0) rg42)
      have lHS : (((List.replicate 43 (0 : Int32)).set 0 ((((((List.replicate 44 (0 : Int32)).set 43 cf).set 0 ca).set 42 cb).set 43 cc).getD 0 0)).set 42 ((((((List.replicate 44 (0 : Int32)).set 43 cf).set 0 ca).set 42 cb).set 43 cc).getD 42 0)).length = 43 := by simp
      have hab : ¬ own_tok (((((List.replicate 44 (0 : Int32)).set 43 cf).set 0 ca).set 42 cb).set 43 cc) := fun q => absurd (lCS.symm.trans q.1) (by decide)
      refine k_iload X687 at_144 rfl (pc' := 146) rfl ?_
      refine k_bipush X687 at_146 (w := (87 : Int32)) rfl (pc' := 148) rfl ?_
      refine k_icmpYes X687 at_148 (by decide) (pc' := 165) (by decide) (by decide) ?_
      refine k_iconst X687 at_165 (w := (0 : Int32)) rfl (pc' := 166) rfl ?_
      refine k_istore X687 at_166 (Ls' := #[.val (.int p0), .val (.int p1), .val (.int p2), .val (.int p3), .val (.int p4), .val (.int p5), .val (.ref t_473), .val (.int (0 : Int32)), .val (.int (44 : Int32)), .val (.ref b682), .val (.int (0 : Int32)), .unset, .unset, .unset]) rfl (pc' := 168) rfl ?_
      refine k_newO X687 at_168 (w_5 hw) (w_6 hw) (w_7 hw) (by decide) (by decide) (pc' := 171) rfl fun T690 h690 b690 g690 X690 K690 E690 D690 S690 lt690 ge690 => ?_
      have sz_h690 := K690.1
      have K0_h690 : Keep h0 h690 [] := K0_h687.trans K690 all0
      have Fn690_coder : Fld Z h690 b690 "java/lang/String" "coder" "B" (.int (0 : Int32)) := D690 (Or.inr (w_31 hw)) (ty := .byte) (by decide)
      have Fn690_value : Fld Z h690 b690 "java/lang/String" "value" "[B" .null := D690 (Or.inr (w_33 hw)) (ty := (.array .byte)) (by decide)
      refine k_dup X690 at_171 rfl (pc' := 172) rfl ?_
      refine k_aload X690 at_172 rfl rfl (pc' := 174) rfl ?_
      have c691 := ((c686.keep K687 (ninS (own_ne (by omega) : t_473 ≠ b682) nin0)).keep K690 nin0)
      have ge697 : n0 ≤ b690 := by omega
      refine k_callPNF X690 (y := (⟨"java/lang/String", "<init>", "([C)V"⟩ : MethodName)) at_174 (w_8 hw) (w_9 hw) (w_7 hw) (w_10 hw) (by decide) rfl rfl (argsL := [(.ref t_473)]) (rest := [(.ref b690)]) (own_initS l Z a0 hw G n0 h690 X690.old b690 t_473 kt_474 (44 : Int32) ((((((List.replicate 44 (0 : Int32)).set 43 cf).set 0 ca).set 42 cb).set 43 cc).map Value.int) (((((List.replicate 44 (0 : Int32)).set 43 cf).set 0 ca).set 42 cb).set 43 cc) rfl (by rw [lCS]; rfl) (by rw [lCS]; decide) (by rw [lCS]; decide) (by omega) E690 Fn690_value Fn690_coder c691) rfl pd_31 rfl rfl (by decide) (W := 1) (Nat.le_of_eq rfl) (by decide) (by decide) (by decide) (allS ⟨S690, ge697⟩ all0) (pc' := 177) rfl ?_
      rintro T698 h698 L698 X698 K698 ⟨t_692, kt_693, cd_694, zz_695, bs_696, q698_0, q698_1, q698_2, q698_3, q698_4, q698_5⟩
      have sz_h698 := K698.1
      have K0_h698 : Keep h0 h698 [] := K0_h690.trans K698 (allS (Or.inr (by omega)) all0)
      have lt698_0 := own_n q698_0.lt
      have lt698_1 := own_n q698_1.lt
      have lt698_2 := own_n q698_2.lt
      have lt698_3 := own_n q698_3.lt
      refine k_astore X698 at_177 rfl (Ls' := #[.val (.int p0), .val (.int p1), .val (.int p2), .val (.int p3), .val (.int p4), .val (.int p5), .val (.ref t_473), .val (.int (0 : Int32)), .val (.int (44 : Int32)), .val (.ref b682), .val (.int (0 : Int32)), .val (.ref b690), .unset, .unset]) rfl (pc' := 179) rfl ?_
      have c699 := ((V687.keep K690 nin0).keep K698 (ninS (own_ne (by omega) : b682 ≠ b690) nin0))
      exact tail _ _ _ _ _ _ _ _ _ _ _ _ _ _ _ _ (((((List.replicate 44 (0 : Int32)).set 43 cf).set 0 ca).set 42 cb).set 43 cc) (((List.replicate 43 (0 : Int32)).set 0 ((((((List.replicate 44 (0 : Int32)).set 43 cf).set 0 ca).set 42 cb).set 43 cc).getD 0 0)).set 42 ((((((List.replicate 44 (0 : Int32)).set 43 cf).set 0 ca).set 42 cb).set 43 cc).getD 42 0)) hCS (by rw [lCS]; decide) hHS lHS (Or.inr ⟨rfl, hab⟩) q698_5 (X698.up (by decide) (by decide)) K0_h698 q698_0 q698_2 q698_1 q698_3 c699
    · refine k_ifNo X476 at_14 ((if0 _ _).trans (feq hc673).1) (pc' := 17) rfl ?_
      refine k_iconst X476 at_17 (w := (1 : Int32)) rfl (pc' := 18) rfl ?_
      refine k_goto X476 at_18 (pc' := 22) (by decide) (by decide) ?_
      refine k_istore X476 at_22 (Ls' := #[.val (.int p0), .val (.int p1), .val (.int p2), .val (.int p3), .val (.int p4), .val (.int p5), .val (.ref t_473), .val (.int (1 : Int32)), .unset, .unset, .unset, .unset, .unset, .unset]) rfl (pc' := 24) rfl ?_
      refine k_aload X476 at_24 rfl rfl (pc' := 26) rfl ?_
      refine k_arlen X476 at_26 q476_0 (pc' := 27) rfl ?_
      refine k_istore X476 at_27 (Ls' := #[.val (.int p0), .val (.int p1), .val (.int p2), .val (.int p3), .val (.int p4), .val (.int p5), .val (.ref t_473), .val (.int (1 : Int32)), .val (.int (44 : Int32)), .unset, .unset, .unset, .unset, .unset]) rfl (pc' := 29) rfl ?_
      refine k_iload X476 at_29 rfl (pc' := 31) rfl ?_
      refine k_ifNo X476 at_31 (by decide) (pc' := 34) rfl ?_
      refine k_aload X476 at_34 rfl rfl (pc' := 36) rfl ?_
      refine k_iload X476 at_36 rfl (pc' := 38) rfl ?_
      refine k_iconst X476 at_38 (w := (1 : Int32)) rfl (pc' := 39) rfl ?_
      refine k_isub X476 at_39 (w := (43 : Int32)) (by decide) (pc' := 40) rfl ?_
      refine k_iload X476 at_40 rfl (pc' := 42) rfl ?_
      refine k_i2c X476 at_42 (w := cf) hcf (pc' := 43) rfl ?_
      have ge701 : n0 ≤ t_473 := by omega
      refine k_castore X476 (w := cf) (43) at_43 q476_0 (by decide) (by decide) rfl (by simp) (own_i2c_id rcf.1 rcf.2) (vs' := (((List.replicate 44 (0 : Int32)).set 43 cf).map Value.int)) (own_mset _ _ _) (X476.sfA q476_0) ge701 (pc' := 44) rfl fun T700 h700 L700 X700 K700 V700 => ?_
      have sz_h700 := K700.1
      have K0_h700 : Keep h0 h700 [] := K0_h476.trans K700 (allS (Or.inr (by omega)) all0)
      refine k_iload X700 at_44 rfl (pc' := 46) rfl ?_
      refine k_ifNo X700 at_46 (by decide) (pc' := 49) rfl ?_
      refine k_aload X700 at_49 rfl rfl (pc' := 51) rfl ?_
      refine k_iconst X700 at_51 (w := (0 : Int32)) rfl (pc' := 52) rfl ?_
      refine k_iloadN X700 at_52 rfl (pc' := 53) rfl ?_
      refine k_i2c X700 at_53 (w := ca) hca (pc' := 54) rfl ?_
      have ge703 : n0 ≤ t_473 := by omega
      refine k_castore X700 (w := ca) (0) at_54 V700 (by decide) (by decide) rfl (by simp) (own_i2c_id rca.1 rca.2) (vs' := ((((List.replicate 44 (0 : Int32)).set 43 cf).set 0 ca).map Value.int)) (own_mset _ _ _) (X700.sfA V700) ge703 (pc' := 55) rfl fun T702 h702 L702 X702 K702 V702 => ?_
      have sz_h702 := K702.1
      have K0_h702 : Keep h0 h702 [] := K0_h700.trans K702 (allS (Or.inr (by omega)) all0)
      refine k_iload X702 at_55 rfl (pc' := 57) rfl ?_
      refine k_bipush X702 at_57 (w := (42 : Int32)) rfl (pc' := 59) rfl ?_
      refine k_icmpNo X702 at_59 (by decide) (pc' := 62) rfl ?_
      refine k_aload X702 at_62 rfl rfl (pc' := 64) rfl ?_
      refine k_bipush X702 at_64 (w := (42 : Int32)) rfl (pc' := 66) rfl ?_
      refine k_iloadN X702 at_66 rfl (pc' := 67) rfl ?_
      refine k_i2c X702 at_67 (w := cb) hcb (pc' := 68) rfl ?_
      have ge705 : n0 ≤ t_473 := by omega
      refine k_castore X702 (w := cb) (42) at_68 V702 (by decide) (by decide) rfl (by simp) (own_i2c_id rcb.1 rcb.2) (vs' := (((((List.replicate 44 (0 : Int32)).set 43 cf).set 0 ca).set 42 cb).map Value.int)) (own_mset _ _ _) (X702.sfA V702) ge705 (pc' := 69) rfl fun T704 h704 L704 X704 K704 V704 => ?_
      have sz_h704 := K704.1
      have K0_h704 : Keep h0 h704 [] := K0_h702.trans K704 (allS (Or.inr (by omega)) all0)
      refine k_iload X704 at_69 rfl (pc' := 71) rfl ?_
      refine k_bipush X704 at_71 (w := (43 : Int32)) rfl (pc' := 73) rfl ?_
      refine k_icmpNo X704 at_73 (by decide) (pc' := 76) rfl ?_
      refine k_aload X704 at_76 rfl rfl (pc' := 78) rfl ?_
      refine k_bipush X704 at_78 (w := (43 : Int32)) rfl (pc' := 80) rfl ?_
      refine k_iload X704 at_80 rfl (pc' := 82) rfl ?_
      refine k_ifNo X704 at_82 (by decide) (pc' := 85) rfl ?_
      refine k_bipush X704 at_85 (w := (46 : Int32)) rfl (pc' := 87) rfl ?_
      refine k_goto X704 at_87 (pc' := 92) (by decide) (by decide) ?_
      have ge707 : n0 ≤ t_473 := by omega
      refine k_castore X704 (w := (46 : Int32)) (43) at_92 V704 (by decide) (by decide) rfl (by simp) (own_i2c_id own_46.1 own_46.2) (vs' := ((((((List.replicate 44 (0 : Int32)).set 43 cf).set 0 ca).set 42 cb).set 43 (46 : Int32)).map Value.int)) (own_mset _ _ _) (X704.sfA V704) ge707 (pc' := 93) rfl fun T706 h706 L706 X706 K706 V706 => ?_
      have sz_h706 := K706.1
      have K0_h706 : Keep h0 h706 [] := K0_h704.trans K706 (allS (Or.inr (by omega)) all0)
      refine k_iload X706 at_93 rfl (pc' := 95) rfl ?_
      refine k_bipush X706 at_95 (w := (44 : Int32)) rfl (pc' := 97) rfl ?_
      refine k_icmpYes X706 at_97 (by decide) (pc' := 108) (by decide) (by decide) ?_
      refine k_bipush X706 at_108 (w := (43 : Int32)) rfl (pc' := 110) rfl ?_
      refine k_newP X706 at_110 (w_4 hw) (by decide) (cap := 43) (by decide) (by decide) (by decide) (by decide) (pc' := 112) rfl fun T708 h708 b708 k708 g708 X708 K708 V708 S708 lt708 ge708 => ?_
      have sz_h708 := K708.1
      have K0_h708 : Keep h0 h708 [] := K0_h706.trans K708 all0
      have Vh : Arv Z h708 b708 k708 .char (43 : Int32) ((List.replicate 43 (0 : Int32)).map Value.int) (.int (0 : Int32)) := Arv.pad V708 (own_padz 43)
      have hCS : own_chs (((((List.replicate 44 (0 : Int32)).set 43 cf).set 0 ca).set 42 cb).set 43 (46 : Int32)) := (own_chs_set (own_chs_set (own_chs_set (own_chs_set (own_chs_rep 44) rcf) rca) rcb) own_46)
      have lCS : (((((List.replicate 44 (0 : Int32)).set 43 cf).set 0 ca).set 42 cb).set 43 (46 : Int32)).length = 44 := by simp
      refine k_astore X708 at_112 rfl (Ls' := #[.val (.int p0), .val (.int p1), .val (.int p2), .val (.int p3), .val (.int p4), .val (.int p5), .val (.ref t_473), .val (.int (1 : Int32)), .val (.int (44 : Int32)), .val (.ref b708), .unset, .unset, .unset, .unset]) rfl (pc' := 114) rfl ?_
      refine k_iload X708 at_114 rfl (pc' := 116) rfl ?_
      refine k_ifNo X708 at_116 (by decide) (pc' := 119) rfl ?_
      refine k_aload X708 at_119 rfl rfl (pc' := 121) rfl ?_
      refine k_iconst X708 at_121 (w := (0 : Int32)) rfl (pc' := 122) rfl ?_
      refine k_aload X708 at_122 rfl rfl (pc' := 124) rfl ?_
      refine k_iconst X708 at_124 (w := (0 : Int32)) rfl (pc' := 125) rfl ?_
      have rg0 : ¬ ((((((List.replicate 44 (0 : Int32)).set 43 cf).set 0 ca).set 42 cb).set 43 (46 : Int32)).getD 0 0) < 0 ∧ ¬ 65535 < ((((((List.replicate 44 (0 : Int32)).set 43 cf).set 0 ca).set 42 cb).set 43 (46 : Int32)).getD 0 0) := own_chs_at hCS (by rw [lCS]; decide)
      have c709 := (V706.keep K708 nin0)
      refine k_caload X708 at_125 c709 (by decide) (by decide) (v := (.int ((((((List.replicate 44 (0 : Int32)).set 43 cf).set 0 ca).set 42 cb).set 43 (46 : Int32)).getD 0 0))) (own_getc' (i := 0) (((((List.replicate 44 (0 : Int32)).set 43 cf).set 0 ca).set 42 cb).set 43 (46 : Int32)) (by decide)) (pc' := 126) rfl ?_
      have ge711 : n0 ≤ b708 := by omega
      refine k_castore X708 (w := ((((((List.replicate 44 (0 : Int32)).set 43 cf).set 0 ca).set 42 cb).set 43 (46 : Int32)).getD 0 0)) (0) at_126 Vh (by decide) (by decide) rfl (by simp) (own_i2c_id rg0.1 rg0.2) (vs' := (((List.replicate 43 (0 : Int32)).set 0 ((((((List.replicate 44 (0 : Int32)).set 43 cf).set 0 ca).set 42 cb).set 43 (46 : Int32)).getD 0 0)).map Value.int)) (own_mset _ _ _) S708 ge711 (pc' := 127) rfl fun T710 h710 L710 X710 K710 V710 => ?_
      have sz_h710 := K710.1
      have K0_h710 : Keep h0 h710 [] := K0_h708.trans K710 (allS (Or.inr (by omega)) all0)
      refine k_iload X710 at_127 rfl (pc' := 129) rfl ?_
      refine k_bipush X710 at_129 (w := (42 : Int32)) rfl (pc' := 131) rfl ?_
      refine k_icmpNo X710 at_131 (by decide) (pc' := 134) rfl ?_
      refine k_aload X710 at_134 rfl rfl (pc' := 136) rfl ?_
      refine k_bipush X710 at_136 (w := (42 : Int32)) rfl (pc' := 138) rfl ?_
      refine k_aload X710 at_138 rfl rfl (pc' := 140) rfl ?_
      refine k_bipush X710 at_140 (w := (42 : Int32)) rfl (pc' := 142) rfl ?_
      have rg42 : ¬ ((((((List.replicate 44 (0 : Int32)).set 43 cf).set 0 ca).set 42 cb).set 43 (46 : Int32)).getD 42 0) < 0 ∧ ¬ 65535 < ((((((List.replicate 44 (0 : Int32)).set 43 cf).set 0 ca).set 42 cb).set 43 (46 : Int32)).getD 42 0) := own_chs_at hCS (by rw [lCS]; decide)
      have c712 := (c709.keep K710 (ninS (own_ne (by omega) : t_473 ≠ b708) nin0))
      refine k_caload X710 at_142 c712 (by decide) (by decide) (v := (.int ((((((List.replicate 44 (0 : Int32)).set 43 cf).set 0 ca).set 42 cb).set 43 (46 : Int32)).getD 42 0))) (own_getc' (i := 42) (((((List.replicate 44 (0 : Int32)).set 43 cf).set 0 ca).set 42 cb).set 43 (46 : Int32)) (by decide)) (pc' := 143) rfl ?_
      have c714 := (X708.sf K710 (allS ⟨S708, ge711⟩ all0) S708)
      have ge715 : n0 ≤ b708 := by omega
      refine k_castore X710 (w := ((((((List.replicate 44 (0 : Int32)).set 43 cf).set 0 ca).set 42 cb).set 43 (46 : Int32)).getD 42 0)) (42) at_143 V710 (by decide) (by decide) rfl (by simp) (own_i2c_id rg42.1 rg42.2) (vs' := ((((List.replicate 43 (0 : Int32)).set 0 ((((((List.replicate 44 (0 : Int32)).set 43 cf).set 0 ca).set 42 cb).set 43 (46 : Int32)).getD 0 0)).set 42 ((((((List.replicate 44 (0 : Int32)).set 43 cf).set 0 ca).set 42 cb).set 43 (46 : Int32)).getD 42 0)).map Value.int)) (own_mset _ _ _) c714 ge715 (pc' := 144) rfl fun T713 h713 L713 X713 K713 V713 => ?_
      have sz_h713 := K713.1
      have K0_h713 : Keep h0 h713 [] := K0_h710.trans K713 (allS (Or.inr (by omega)) all0)
      have hHS : own_chs (((List.replicate 43 (0 : Int32)).set 0 ((((((List.replicate 44 (0 : Int32)).set 43 cf).set 0 ca).set 42 cb).set 43 (46 : Int32)).getD 0 0)).set 42 ((((((List.replicate 44 (0 : Int32)).set 43 cf).set 0 ca).set 42 cb).set 43 (46 : Int32)).getD 42 0)) := (own_chs_set (own_chs_set (own_chs_rep 43) rg0) rg42)
      have lHS : (((List.replicate 43 (0 : Int32)).set 0 ((((((List.replicate 44 (0 : Int32)).set 43 cf).set 0 ca).set 42 cb).set 43 (46 : Int32)).getD 0 0)).set 42 ((((((List.replicate 44 (0 : Int32)).set 43 cf).set 0 ca).set 42 cb).set 43 (46 : Int32)).getD 42 0)).length = 43 := by simp
      have hab : ¬ own_tok (((((List.replicate 44 (0 : Int32)).set 43 cf).set 0 ca).set 42 cb).set 43 (46 : Int32)) := fun q => absurd (lCS.symm.trans q.1) (by decide)
      refine k_iload X713 at_144 rfl (pc' := 146) rfl ?_
      refine k_bipush X713 at_146 (w := (87 : Int32)) rfl (pc' := 148) rfl ?_
      refine k_icmpYes X713 at_148 (by decide) (pc' := 165) (by decide) (by decide) ?_
      refine k_iconst X713 at_165 (w := (0 : Int32)) rfl (pc' := 166) rfl ?_
      refine k_istore X713 at_166 (Ls' := #[.val (.int p0), .val (.int p1), .val (.int p2), .val (.int p3), .val (.int p4), .val (.int p5), .val (.ref t_473), .val (.int (1 : Int32)), .val (.int (44 : Int32)), .val (.ref b708), .val (.int (0 : Int32)), .unset, .unset, .unset]) rfl (pc' := 168) rfl ?_
      refine k_newO X713 at_168 (w_5 hw) (w_6 hw) (w_7 hw) (by decide) (by decide) (pc' := 171) rfl fun T716 h716 b716 g716 X716 K716 E716 D716 S716 lt716 ge716 => ?_
      have sz_h716 := K716.1
      have K0_h716 : Keep h0 h716 [] := K0_h713.trans K716 all0
      have Fn716_coder : Fld Z h716 b716 "java/lang/String" "coder" "B" (.int (0 : Int32)) := D716 (Or.inr (w_31 hw)) (ty := .byte) (by decide)
      have Fn716_value : Fld Z h716 b716 "java/lang/String" "value" "[B" .null := D716 (Or.inr (w_33 hw)) (ty := (.array .byte)) (by decide)
      refine k_dup X716 at_171 rfl (pc' := 172) rfl ?_
      refine k_aload X716 at_172 rfl rfl (pc' := 174) rfl ?_
      have c717 := ((c712.keep K713 (ninS (own_ne (by omega) : t_473 ≠ b708) nin0)).keep K716 nin0)
      have ge723 : n0 ≤ b716 := by omega
      refine k_callPNF X716 (y := (⟨"java/lang/String", "<init>", "([C)V"⟩ : MethodName)) at_174 (w_8 hw) (w_9 hw) (w_7 hw) (w_10 hw) (by decide) rfl rfl (argsL := [(.ref t_473)]) (rest := [(.ref b716)]) (own_initS l Z a0 hw G n0 h716 X716.old b716 t_473 kt_474 (44 : Int32) ((((((List.replicate 44 (0 : Int32)).set 43 cf).set 0 ca).set 42 cb).set 43 (46 : Int32)).map Value.int) (((((List.replicate 44 (0 : Int32)).set 43 cf).set 0 ca).set 42 cb).set 43 (46 : Int32)) rfl (by rw [lCS]; rfl) (by rw [lCS]; decide) (by rw [lCS]; decide) (by omega) E716 Fn716_value Fn716_coder c717) rfl pd_31 rfl rfl (by decide) (W := 1) (Nat.le_of_eq rfl) (by decide) (by decide) (by decide) (allS ⟨S716, ge723⟩ all0) (pc' := 177) rfl ?_
      rintro T724 h724 L724 X724 K724 ⟨t_718, kt_719, cd_720, zz_721, bs_722, q724_0, q724_1, q724_2, q724_3, q724_4, q724_5⟩
      have sz_h724 := K724.1
      have K0_h724 : Keep h0 h724 [] := K0_h716.trans K724 (allS (Or.inr (by omega)) all0)
      have lt724_0 := own_n q724_0.lt
      have lt724_1 := own_n q724_1.lt
      have lt724_2 := own_n q724_2.lt
      have lt724_3 := own_n q724_3.lt
      refine k_astore X724 at_177 rfl (Ls' := #[.val (.int p0), .val (.int p1), .val (.int p2), .val (.int p3), .val (.int p4), .val (.int p5), .val (.ref t_473), .val (.int (1 : Int32)), .val (.int (44 : Int32)), .val (.ref b708), .val (.int (0 : Int32)), .val (.ref b716), .unset, .unset]) rfl (pc' := 179) rfl ?_
      have c725 := ((V713.keep K716 nin0).keep K724 (ninS (own_ne (by omega) : b708 ≠ b716) nin0))
      exact tail _ _ _ _ _ _ _ _ _ _ _ _ _ _ _ _ (((((List.replicate 44 (0 : Int32)).set 43 cf).set 0 ca).set 42 cb).set 43 (46 : Int32)) (((List.replicate 43 (0 : Int32)).set 0 ((((((List.replicate 44 (0 : Int32)).set 43 cf).set 0 ca).set 42 cb).set 43 (46 : Int32)).getD 0 0)).set 42 ((((((List.replicate 44 (0 : Int32)).set 43 cf).set 0 ca).set 42 cb).set 43 (46 : Int32)).getD 42 0)) hCS (by rw [lCS]; decide) hHS lHS (Or.inr ⟨rfl, hab⟩) q724_5 (X724.up (by decide) (by decide)) K0_h724 q724_0 q724_2 q724_1 q724_3 c725
  · refine k_astore X476 at_7 rfl (Ls' := #[.val (.int p0), .val (.int p1), .val (.int p2), .val (.int p3), .val (.int p4), .val (.int p5), .val (.ref t_473), .unset, .unset, .unset, .unset, .unset, .unset, .unset]) rfl (pc' := 9) rfl ?_
    refine k_iloadN X476 at_9 rfl (pc' := 10) rfl ?_
    refine k_iconst X476 at_10 (w := (3 : Int32)) rfl (pc' := 11) rfl ?_
    refine k_iushr X476 at_11 (w := ((p0.toUInt32 >>> ((3 : Int32) &&& 31).toUInt32).toInt32)) rfl (pc' := 12) rfl ?_
    refine k_iconst X476 at_12 (w := (1 : Int32)) rfl (pc' := 13) rfl ?_
    refine k_iand X476 at_13 (w := (((p0.toUInt32 >>> ((3 : Int32) &&& 31).toUInt32).toInt32) &&& (1 : Int32))) rfl (pc' := 14) rfl ?_
    by_cases hc726 : (((p0.toUInt32 >>> ((3 : Int32) &&& 31).toUInt32).toInt32) &&& (1 : Int32)) = (0 : Int32)
    · refine k_ifYes X476 at_14 ((if0 _ _).trans (teq hc726).1) (pc' := 21) (by decide) (by decide) ?_
      refine k_iconst X476 at_21 (w := (0 : Int32)) rfl (pc' := 22) rfl ?_
      refine k_istore X476 at_22 (Ls' := #[.val (.int p0), .val (.int p1), .val (.int p2), .val (.int p3), .val (.int p4), .val (.int p5), .val (.ref t_473), .val (.int (0 : Int32)), .unset, .unset, .unset, .unset, .unset, .unset]) rfl (pc' := 24) rfl ?_
      refine k_aload X476 at_24 rfl rfl (pc' := 26) rfl ?_
      refine k_arlen X476 at_26 q476_0 (pc' := 27) rfl ?_
      refine k_istore X476 at_27 (Ls' := #[.val (.int p0), .val (.int p1), .val (.int p2), .val (.int p3), .val (.int p4), .val (.int p5), .val (.ref t_473), .val (.int (0 : Int32)), .val (.int (43 : Int32)), .unset, .unset, .unset, .unset, .unset]) rfl (pc' := 29) rfl ?_
      refine k_iload X476 at_29 rfl (pc' := 31) rfl ?_
      refine k_ifNo X476 at_31 (by decide) (pc' := 34) rfl ?_
      refine k_aload X476 at_34 rfl rfl (pc' := 36) rfl ?_
      refine k_iload X476 at_36 rfl (pc' := 38) rfl ?_
      refine k_iconst X476 at_38 (w := (1 : Int32)) rfl (pc' := 39) rfl ?_
      refine k_isub X476 at_39 (w := (42 : Int32)) (by decide) (pc' := 40) rfl ?_
      refine k_iload X476 at_40 rfl (pc' := 42) rfl ?_
      refine k_i2c X476 at_42 (w := cf) hcf (pc' := 43) rfl ?_
      have ge728 : n0 ≤ t_473 := by omega
      refine k_castore X476 (w := cf) (42) at_43 q476_0 (by decide) (by decide) rfl (by simp) (own_i2c_id rcf.1 rcf.2) (vs' := (((List.replicate 43 (0 : Int32)).set 42 cf).map Value.int)) (own_mset _ _ _) (X476.sfA q476_0) ge728 (pc' := 44) rfl fun T727 h727 L727 X727 K727 V727 => ?_
      have sz_h727 := K727.1
      have K0_h727 : Keep h0 h727 [] := K0_h476.trans K727 (allS (Or.inr (by omega)) all0)
      refine k_iload X727 at_44 rfl (pc' := 46) rfl ?_
      refine k_ifNo X727 at_46 (by decide) (pc' := 49) rfl ?_
      refine k_aload X727 at_49 rfl rfl (pc' := 51) rfl ?_
      refine k_iconst X727 at_51 (w := (0 : Int32)) rfl (pc' := 52) rfl ?_
      refine k_iloadN X727 at_52 rfl (pc' := 53) rfl ?_
      refine k_i2c X727 at_53 (w := ca) hca (pc' := 54) rfl ?_
      have ge730 : n0 ≤ t_473 := by omega
      refine k_castore X727 (w := ca) (0) at_54 V727 (by decide) (by decide) rfl (by simp) (own_i2c_id rca.1 rca.2) (vs' := ((((List.replicate 43 (0 : Int32)).set 42 cf).set 0 ca).map Value.int)) (own_mset _ _ _) (X727.sfA V727) ge730 (pc' := 55) rfl fun T729 h729 L729 X729 K729 V729 => ?_
      have sz_h729 := K729.1
      have K0_h729 : Keep h0 h729 [] := K0_h727.trans K729 (allS (Or.inr (by omega)) all0)
      refine k_iload X729 at_55 rfl (pc' := 57) rfl ?_
      refine k_bipush X729 at_57 (w := (42 : Int32)) rfl (pc' := 59) rfl ?_
      refine k_icmpNo X729 at_59 (by decide) (pc' := 62) rfl ?_
      refine k_aload X729 at_62 rfl rfl (pc' := 64) rfl ?_
      refine k_bipush X729 at_64 (w := (42 : Int32)) rfl (pc' := 66) rfl ?_
      refine k_iloadN X729 at_66 rfl (pc' := 67) rfl ?_
      refine k_i2c X729 at_67 (w := cb) hcb (pc' := 68) rfl ?_
      have ge732 : n0 ≤ t_473 := by omega
      refine k_castore X729 (w := cb) (42) at_68 V729 (by decide) (by decide) rfl (by simp) (own_i2c_id rcb.1 rcb.2) (vs' := (((((List.replicate 43 (0 : Int32)).set 42 cf).set 0 ca).set 42 cb).map Value.int)) (own_mset _ _ _) (X729.sfA V729) ge732 (pc' := 69) rfl fun T731 h731 L731 X731 K731 V731 => ?_
      have sz_h731 := K731.1
      have K0_h731 : Keep h0 h731 [] := K0_h729.trans K731 (allS (Or.inr (by omega)) all0)
      refine k_iload X731 at_69 rfl (pc' := 71) rfl ?_
      refine k_bipush X731 at_71 (w := (43 : Int32)) rfl (pc' := 73) rfl ?_
      refine k_icmpYes X731 at_73 (by decide) (pc' := 93) (by decide) (by decide) ?_
      refine k_iload X731 at_93 rfl (pc' := 95) rfl ?_
      refine k_bipush X731 at_95 (w := (44 : Int32)) rfl (pc' := 97) rfl ?_
      refine k_icmpYes X731 at_97 (by decide) (pc' := 108) (by decide) (by decide) ?_
      refine k_bipush X731 at_108 (w := (43 : Int32)) rfl (pc' := 110) rfl ?_
      refine k_newP X731 at_110 (w_4 hw) (by decide) (cap := 43) (by decide) (by decide) (by decide) (by decide) (pc' := 112) rfl fun T733 h733 b733 k733 g733 X733 K733 V733 S733 lt733 ge733 => ?_
      have sz_h733 := K733.1
      have K0_h733 : Keep h0 h733 [] := K0_h731.trans K733 all0
      have Vh : Arv Z h733 b733 k733 .char (43 : Int32) ((List.replicate 43 (0 : Int32)).map Value.int) (.int (0 : Int32)) := Arv.pad V733 (own_padz 43)
      have hCS : own_chs ((((List.replicate 43 (0 : Int32)).set 42 cf).set 0 ca).set 42 cb) := (own_chs_set (own_chs_set (own_chs_set (own_chs_rep 43) rcf) rca) rcb)
      have lCS : ((((List.replicate 43 (0 : Int32)).set 42 cf).set 0 ca).set 42 cb).length = 43 := by simp
      refine k_astore X733 at_112 rfl (Ls' := #[.val (.int p0), .val (.int p1), .val (.int p2), .val (.int p3), .val (.int p4), .val (.int p5), .val (.ref t_473), .val (.int (0 : Int32)), .val (.int (43 : Int32)), .val (.ref b733), .unset, .unset, .unset, .unset]) rfl (pc' := 114) rfl ?_
      refine k_iload X733 at_114 rfl (pc' := 116) rfl ?_
      refine k_ifNo X733 at_116 (by decide) (pc' := 119) rfl ?_
      refine k_aload X733 at_119 rfl rfl (pc' := 121) rfl ?_
      refine k_iconst X733 at_121 (w := (0 : Int32)) rfl (pc' := 122) rfl ?_
      refine k_aload X733 at_122 rfl rfl (pc' := 124) rfl ?_
      refine k_iconst X733 at_124 (w := (0 : Int32)) rfl (pc' := 125) rfl ?_
      have rg0 : ¬ (((((List.replicate 43 (0 : Int32)).set 42 cf).set 0 ca).set 42 cb).getD 0 0) < 0 ∧ ¬ 65535 < (((((List.replicate 43 (0 : Int32)).set 42 cf).set 0 ca).set 42 cb).getD 0 0) := own_chs_at hCS (by rw [lCS]; decide)
      have c734 := (V731.keep K733 nin0)
      refine k_caload X733 at_125 c734 (by decide) (by decide) (v := (.int (((((List.replicate 43 (0 : Int32)).set 42 cf).set 0 ca).set 42 cb).getD 0 0))) (own_getc' (i := 0) ((((List.replicate 43 (0 : Int32)).set 42 cf).set 0 ca).set 42 cb) (by decide)) (pc' := 126) rfl ?_
      have ge736 : n0 ≤ b733 := by omega
      refine k_castore X733 (w := (((((List.replicate 43 (0 : Int32)).set 42 cf).set 0 ca).set 42 cb).getD 0 0)) (0) at_126 Vh (by decide) (by decide) rfl (by simp) (own_i2c_id rg0.1 rg0.2) (vs' := (((List.replicate 43 (0 : Int32)).set 0 (((((List.replicate 43 (0 : Int32)).set 42 cf).set 0 ca).set 42 cb).getD 0 0)).map Value.int)) (own_mset _ _ _) S733 ge736 (pc' := 127) rfl fun T735 h735 L735 X735 K735 V735 => ?_
      have sz_h735 := K735.1
      have K0_h735 : Keep h0 h735 [] := K0_h733.trans K735 (allS (Or.inr (by omega)) all0)
      refine k_iload X735 at_127 rfl (pc' := 129) rfl ?_
      refine k_bipush X735 at_129 (w := (42 : Int32)) rfl (pc' := 131) rfl ?_
      refine k_icmpNo X735 at_131 (by decide) (pc' := 134) rfl ?_
      refine k_aload X735 at_134 rfl rfl (pc' := 136) rfl ?_
      refine k_bipush X735 at_136 (w := (42 : Int32)) rfl (pc' := 138) rfl ?_
      refine k_aload X735 at_138 rfl rfl (pc' := 140) rfl ?_
      refine k_bipush X735 at_140 (w := (42 : Int32)) rfl (pc' := 142) rfl ?_
      have rg42 : ¬ (((((List.replicate 43 (0 : Int32)).set 42 cf).set 0 ca).set 42 cb).getD 42 0) < 0 ∧ ¬ 65535 < (((((List.replicate 43 (0 : Int32)).set 42 cf).set 0 ca).set 42 cb).getD 42 0) := own_chs_at hCS (by rw [lCS]; decide)
      have c737 := (c734.keep K735 (ninS (own_ne (by omega) : t_473 ≠ b733) nin0))
      refine k_caload X735 at_142 c737 (by decide) (by decide) (v := (.int (((((List.replicate 43 (0 : Int32)).set 42 cf).set 0 ca).set 42 cb).getD 42 0))) (own_getc' (i := 42) ((((List.replicate 43 (0 : Int32)).set 42 cf).set 0 ca).set 42 cb) (by decide)) (pc' := 143) rfl ?_
      have c739 := (X733.sf K735 (allS ⟨S733, ge736⟩ all0) S733)
      have ge740 : n0 ≤ b733 := by omega
      refine k_castore X735 (w := (((((List.replicate 43 (0 : Int32)).set 42 cf).set 0 ca).set 42 cb).getD 42 0)) (42) at_143 V735 (by decide) (by decide) rfl (by simp) (own_i2c_id rg42.1 rg42.2) (vs' := ((((List.replicate 43 (0 : Int32)).set 0 (((((List.replicate 43 (0 : Int32)).set 42 cf).set 0 ca).set 42 cb).getD 0 0)).set 42 (((((List.replicate 43 (0 : Int32)).set 42 cf).set 0 ca).set 42 cb).getD 42 0)).map Value.int)) (own_mset _ _ _) c739 ge740 (pc' := 144) rfl fun T738 h738 L738 X738 K738 V738 => ?_
      have sz_h738 := K738.1
      have K0_h738 : Keep h0 h738 [] := K0_h735.trans K738 (allS (Or.inr (by omega)) all0)
      have hHS : own_chs (((List.replicate 43 (0 : Int32)).set 0 (((((List.replicate 43 (0 : Int32)).set 42 cf).set 0 ca).set 42 cb).getD 0 0)).set 42 (((((List.replicate 43 (0 : Int32)).set 42 cf).set 0 ca).set 42 cb).getD 42 0)) := (own_chs_set (own_chs_set (own_chs_rep 43) rg0) rg42)
      have lHS : (((List.replicate 43 (0 : Int32)).set 0 (((((List.replicate 43 (0 : Int32)).set 42 cf).set 0 ca).set 42 cb).getD 0 0)).set 42 (((((List.replicate 43 (0 : Int32)).set 42 cf).set 0 ca).set 42 cb).getD 42 0)).length = 43 := by simp
      have hab : ¬ own_tok ((((List.replicate 43 (0 : Int32)).set 42 cf).set 0 ca).set 42 cb) := fun q => absurd (lCS.symm.trans q.1) (by decide)
      refine k_iload X738 at_144 rfl (pc' := 146) rfl ?_
      refine k_bipush X738 at_146 (w := (87 : Int32)) rfl (pc' := 148) rfl ?_
      refine k_icmpYes X738 at_148 (by decide) (pc' := 165) (by decide) (by decide) ?_
      refine k_iconst X738 at_165 (w := (0 : Int32)) rfl (pc' := 166) rfl ?_
      refine k_istore X738 at_166 (Ls' := #[.val (.int p0), .val (.int p1), .val (.int p2), .val (.int p3), .val (.int p4), .val (.int p5), .val (.ref t_473), .val (.int (0 : Int32)), .val (.int (43 : Int32)), .val (.ref b733), .val (.int (0 : Int32)), .unset, .unset, .unset]) rfl (pc' := 168) rfl ?_
      refine k_newO X738 at_168 (w_5 hw) (w_6 hw) (w_7 hw) (by decide) (by decide) (pc' := 171) rfl fun T741 h741 b741 g741 X741 K741 E741 D741 S741 lt741 ge741 => ?_
      have sz_h741 := K741.1
      have K0_h741 : Keep h0 h741 [] := K0_h738.trans K741 all0
      have Fn741_coder : Fld Z h741 b741 "java/lang/String" "coder" "B" (.int (0 : Int32)) := D741 (Or.inr (w_31 hw)) (ty := .byte) (by decide)
      have Fn741_value : Fld Z h741 b741 "java/lang/String" "value" "[B" .null := D741 (Or.inr (w_33 hw)) (ty := (.array .byte)) (by decide)
      refine k_dup X741 at_171 rfl (pc' := 172) rfl ?_
      refine k_aload X741 at_172 rfl rfl (pc' := 174) rfl ?_
      have c742 := ((c737.keep K738 (ninS (own_ne (by omega) : t_473 ≠ b733) nin0)).keep K741 nin0)
      have ge748 : n0 ≤ b741 := by omega
      refine k_callPNF X741 (y := (⟨"java/lang/String", "<init>", "([C)V"⟩ : MethodName)) at_174 (w_8 hw) (w_9 hw) (w_7 hw) (w_10 hw) (by decide) rfl rfl (argsL := [(.ref t_473)]) (rest := [(.ref b741)]) (own_initS l Z a0 hw G n0 h741 X741.old b741 t_473 kt_474 (43 : Int32) (((((List.replicate 43 (0 : Int32)).set 42 cf).set 0 ca).set 42 cb).map Value.int) ((((List.replicate 43 (0 : Int32)).set 42 cf).set 0 ca).set 42 cb) rfl (by rw [lCS]; rfl) (by rw [lCS]; decide) (by rw [lCS]; decide) (by omega) E741 Fn741_value Fn741_coder c742) rfl pd_31 rfl rfl (by decide) (W := 1) (Nat.le_of_eq rfl) (by decide) (by decide) (by decide) (allS ⟨S741, ge748⟩ all0) (pc' := 177) rfl ?_
      rintro T749 h749 L749 X749 K749 ⟨t_743, kt_744, cd_745, zz_746, bs_747, q749_0, q749_1, q749_2, q749_3, q749_4, q749_5⟩
      have sz_h749 := K749.1
      have K0_h749 : Keep h0 h749 [] := K0_h741.trans K749 (allS (Or.inr (by omega)) all0)
      have lt749_0 := own_n q749_0.lt
      have lt749_1 := own_n q749_1.lt
      have lt749_2 := own_n q749_2.lt
      have lt749_3 := own_n q749_3.lt
      refine k_astore X749 at_177 rfl (Ls' := #[.val (.int p0), .val (.int p1), .val (.int p2), .val (.int p3), .val (.int p4), .val (.int p5), .val (.ref t_473), .val (.int (0 : Int32)), .val (.int (43 : Int32)), .val (.ref b733), .val (.int (0 : Int32)), .val (.ref b741), .unset, .unset]) rfl (pc' := 179) rfl ?_
      have c750 := ((V738.keep K741 nin0).keep K749 (ninS (own_ne (by omega) : b733 ≠ b741) nin0))
      exact tail _ _ _ _ _ _ _ _ _ _ _ _ _ _ _ _ ((((List.replicate 43 (0 : Int32)).set 42 cf).set 0 ca).set 42 cb) (((List.replicate 43 (0 : Int32)).set 0 (((((List.replicate 43 (0 : Int32)).set 42 cf).set 0 ca).set 42 cb).getD 0 0)).set 42 (((((List.replicate 43 (0 : Int32)).set 42 cf).set 0 ca).set 42 cb).getD 42 0)) hCS (by rw [lCS]; decide) hHS lHS (Or.inr ⟨rfl, hab⟩) q749_5 (X749.up (by decide) (by decide)) K0_h749 q749_0 q749_2 q749_1 q749_3 c750
    · refine k_ifNo X476 at_14 ((if0 _ _).trans (feq hc726).1) (pc' := 17) rfl ?_
      refine k_iconst X476 at_17 (w := (1 : Int32)) rfl (pc' := 18) rfl ?_
      refine k_goto X476 at_18 (pc' := 22) (by decide) (by decide) ?_
      refine k_istore X476 at_22 (Ls' := #[.val (.int p0), .val (.int p1), .val (.int p2), .val (.int p3), .val (.int p4), .val (.int p5), .val (.ref t_473), .val (.int (1 : Int32)), .unset, .unset, .unset, .unset, .unset, .unset]) rfl (pc' := 24) rfl ?_
      refine k_aload X476 at_24 rfl rfl (pc' := 26) rfl ?_
      refine k_arlen X476 at_26 q476_0 (pc' := 27) rfl ?_
      refine k_istore X476 at_27 (Ls' := #[.val (.int p0), .val (.int p1), .val (.int p2), .val (.int p3), .val (.int p4), .val (.int p5), .val (.ref t_473), .val (.int (1 : Int32)), .val (.int (43 : Int32)), .unset, .unset, .unset, .unset, .unset]) rfl (pc' := 29) rfl ?_
      refine k_iload X476 at_29 rfl (pc' := 31) rfl ?_
      refine k_ifNo X476 at_31 (by decide) (pc' := 34) rfl ?_
      refine k_aload X476 at_34 rfl rfl (pc' := 36) rfl ?_
      refine k_iload X476 at_36 rfl (pc' := 38) rfl ?_
      refine k_iconst X476 at_38 (w := (1 : Int32)) rfl (pc' := 39) rfl ?_
      refine k_isub X476 at_39 (w := (42 : Int32)) (by decide) (pc' := 40) rfl ?_
      refine k_iload X476 at_40 rfl (pc' := 42) rfl ?_
      refine k_i2c X476 at_42 (w := cf) hcf (pc' := 43) rfl ?_
      have ge752 : n0 ≤ t_473 := by omega
      refine k_castore X476 (w := cf) (42) at_43 q476_0 (by decide) (by decide) rfl (by simp) (own_i2c_id rcf.1 rcf.2) (vs' := (((List.replicate 43 (0 : Int32)).set 42 cf).map Value.int)) (own_mset _ _ _) (X476.sfA q476_0) ge752 (pc' := 44) rfl fun T751 h751 L751 X751 K751 V751 => ?_
      have sz_h751 := K751.1
      have K0_h751 : Keep h0 h751 [] := K0_h476.trans K751 (allS (Or.inr (by omega)) all0)
      refine k_iload X751 at_44 rfl (pc' := 46) rfl ?_
      refine k_ifNo X751 at_46 (by decide) (pc' := 49) rfl ?_
      refine k_aload X751 at_49 rfl rfl (pc' := 51) rfl ?_
      refine k_iconst X751 at_51 (w := (0 : Int32)) rfl (pc' := 52) rfl ?_
      refine k_iloadN X751 at_52 rfl (pc' := 53) rfl ?_
      refine k_i2c X751 at_53 (w := ca) hca (pc' := 54) rfl ?_
      have ge754 : n0 ≤ t_473 := by omega
      refine k_castore X751 (w := ca) (0) at_54 V751 (by decide) (by decide) rfl (by simp) (own_i2c_id rca.1 rca.2) (vs' := ((((List.replicate 43 (0 : Int32)).set 42 cf).set 0 ca).map Value.int)) (own_mset _ _ _) (X751.sfA V751) ge754 (pc' := 55) rfl fun T753 h753 L753 X753 K753 V753 => ?_
      have sz_h753 := K753.1
      have K0_h753 : Keep h0 h753 [] := K0_h751.trans K753 (allS (Or.inr (by omega)) all0)
      refine k_iload X753 at_55 rfl (pc' := 57) rfl ?_
      refine k_bipush X753 at_57 (w := (42 : Int32)) rfl (pc' := 59) rfl ?_
      refine k_icmpNo X753 at_59 (by decide) (pc' := 62) rfl ?_
      refine k_aload X753 at_62 rfl rfl (pc' := 64) rfl ?_
      refine k_bipush X753 at_64 (w := (42 : Int32)) rfl (pc' := 66) rfl ?_
      refine k_iloadN X753 at_66 rfl (pc' := 67) rfl ?_
      refine k_i2c X753 at_67 (w := cb) hcb (pc' := 68) rfl ?_
      have ge756 : n0 ≤ t_473 := by omega
      refine k_castore X753 (w := cb) (42) at_68 V753 (by decide) (by decide) rfl (by simp) (own_i2c_id rcb.1 rcb.2) (vs' := (((((List.replicate 43 (0 : Int32)).set 42 cf).set 0 ca).set 42 cb).map Value.int)) (own_mset _ _ _) (X753.sfA V753) ge756 (pc' := 69) rfl fun T755 h755 L755 X755 K755 V755 => ?_
      have sz_h755 := K755.1
      have K0_h755 : Keep h0 h755 [] := K0_h753.trans K755 (allS (Or.inr (by omega)) all0)
      refine k_iload X755 at_69 rfl (pc' := 71) rfl ?_
      refine k_bipush X755 at_71 (w := (43 : Int32)) rfl (pc' := 73) rfl ?_
      refine k_icmpYes X755 at_73 (by decide) (pc' := 93) (by decide) (by decide) ?_
      refine k_iload X755 at_93 rfl (pc' := 95) rfl ?_
      refine k_bipush X755 at_95 (w := (44 : Int32)) rfl (pc' := 97) rfl ?_
      refine k_icmpYes X755 at_97 (by decide) (pc' := 108) (by decide) (by decide) ?_
      refine k_bipush X755 at_108 (w := (43 : Int32)) rfl (pc' := 110) rfl ?_
      refine k_newP X755 at_110 (w_4 hw) (by decide) (cap := 43) (by decide) (by decide) (by decide) (by decide) (pc' := 112) rfl fun T757 h757 b757 k757 g757 X757 K757 V757 S757 lt757 ge757 => ?_
      have sz_h757 := K757.1
      have K0_h757 : Keep h0 h757 [] := K0_h755.trans K757 all0
      have Vh : Arv Z h757 b757 k757 .char (43 : Int32) ((List.replicate 43 (0 : Int32)).map Value.int) (.int (0 : Int32)) := Arv.pad V757 (own_padz 43)
      have hCS : own_chs ((((List.replicate 43 (0 : Int32)).set 42 cf).set 0 ca).set 42 cb) := (own_chs_set (own_chs_set (own_chs_set (own_chs_rep 43) rcf) rca) rcb)
      have lCS : ((((List.replicate 43 (0 : Int32)).set 42 cf).set 0 ca).set 42 cb).length = 43 := by simp
      refine k_astore X757 at_112 rfl (Ls' := #[.val (.int p0), .val (.int p1), .val (.int p2), .val (.int p3), .val (.int p4), .val (.int p5), .val (.ref t_473), .val (.int (1 : Int32)), .val (.int (43 : Int32)), .val (.ref b757), .unset, .unset, .unset, .unset]) rfl (pc' := 114) rfl ?_
      refine k_iload X757 at_114 rfl (pc' := 116) rfl ?_
      refine k_ifNo X757 at_116 (by decide) (pc' := 119) rfl ?_
      refine k_aload X757 at_119 rfl rfl (pc' := 121) rfl ?_
      refine k_iconst X757 at_121 (w := (0 : Int32)) rfl (pc' := 122) rfl ?_
      refine k_aload X757 at_122 rfl rfl (pc' := 124) rfl ?_
      refine k_iconst X757 at_124 (w := (0 : Int32)) rfl (pc' := 125) rfl ?_
      have rg0 : ¬ (((((List.replicate 43 (0 : Int32)).set 42 cf).set 0 ca).set 42 cb).getD 0 0) < 0 ∧ ¬ 65535 < (((((List.replicate 43 (0 : Int32)).set 42 cf).set 0 ca).set 42 cb).getD 0 0) := own_chs_at hCS (by rw [lCS]; decide)
      have c758 := (V755.keep K757 nin0)
      refine k_caload X757 at_125 c758 (by decide) (by decide) (v := (.int (((((List.replicate 43 (0 : Int32)).set 42 cf).set 0 ca).set 42 cb).getD 0 0))) (own_getc' (i := 0) ((((List.replicate 43 (0 : Int32)).set 42 cf).set 0 ca).set 42 cb) (by decide)) (pc' := 126) rfl ?_
      have ge760 : n0 ≤ b757 := by omega
      refine k_castore X757 (w := (((((List.replicate 43 (0 : Int32)).set 42 cf).set 0 ca).set 42 cb).getD 0 0)) (0) at_126 Vh (by decide) (by decide) rfl (by simp) (own_i2c_id rg0.1 rg0.2) (vs' := (((List.replicate 43 (0 : Int32)).set 0 (((((List.replicate 43 (0 : Int32)).set 42 cf).set 0 ca).set 42 cb).getD 0 0)).map Value.int)) (own_mset _ _ _) S757 ge760 (pc' := 127) rfl fun T759 h759 L759 X759 K759 V759 => ?_
      have sz_h759 := K759.1
      have K0_h759 : Keep h0 h759 [] := K0_h757.trans K759 (allS (Or.inr (by omega)) all0)
      refine k_iload X759 at_127 rfl (pc' := 129) rfl ?_
      refine k_bipush X759 at_129 (w := (42 : Int32)) rfl (pc' := 131) rfl ?_
      refine k_icmpNo X759 at_131 (by decide) (pc' := 134) rfl ?_
      refine k_aload X759 at_134 rfl rfl (pc' := 136) rfl ?_
      refine k_bipush X759 at_136 (w := (42 : Int32)) rfl (pc' := 138) rfl ?_
      refine k_aload X759 at_138 rfl rfl (pc' := 140) rfl ?_
      refine k_bipush X759 at_140 (w := (42 : Int32)) rfl (pc' := 142) rfl ?_
      have rg42 : ¬ (((((List.replicate 43 (0 : Int32)).set 42 cf).set 0 ca).set 42 cb).getD 42 0) < 0 ∧ ¬ 65535 < (((((List.replicate 43 (0 : Int32)).set 42 cf).set 0 ca).set 42 cb).getD 42 0) := own_chs_at hCS (by rw [lCS]; decide)
      have c761 := (c758.keep K759 (ninS (own_ne (by omega) : t_473 ≠ b757) nin0))
      refine k_caload X759 at_142 c761 (by decide) (by decide) (v := (.int (((((List.replicate 43 (0 : Int32)).set 42 cf).set 0 ca).set 42 cb).getD 42 0))) (own_getc' (i := 42) ((((List.replicate 43 (0 : Int32)).set 42 cf).set 0 ca).set 42 cb) (by decide)) (pc' := 143) rfl ?_
      have c763 := (X757.sf K759 (allS ⟨S757, ge760⟩ all0) S757)
      have ge764 : n0 ≤ b757 := by omega
      refine k_castore X759 (w := (((((List.replicate 43 (0 : Int32)).set 42 cf).set 0 ca).set 42 cb).getD 42 0)) (42) at_143 V759 (by decide) (by decide) rfl (by simp) (own_i2c_id rg42.1 rg42.2) (vs' := ((((List.replicate 43 (0 : Int32)).set 0 (((((List.replicate 43 (0 : Int32)).set 42 cf).set 0 ca).set 42 cb).getD 0 0)).set 42 (((((List.replicate 43 (0 : Int32)).set 42 cf).set 0 ca).set 42 cb).getD 42 0)).map Value.int)) (own_mset _ _ _) c763 ge764 (pc' := 144) rfl fun T762 h762 L762 X762 K762 V762 => ?_
      have sz_h762 := K762.1
      have K0_h762 : Keep h0 h762 [] := K0_h759.trans K762 (allS (Or.inr (by omega)) all0)
      have hHS : own_chs (((List.replicate 43 (0 : Int32)).set 0 (((((List.replicate 43 (0 : Int32)).set 42 cf).set 0 ca).set 42 cb).getD 0 0)).set 42 (((((List.replicate 43 (0 : Int32)).set 42 cf).set 0 ca).set 42 cb).getD 42 0)) := (own_chs_set (own_chs_set (own_chs_rep 43) rg0) rg42)
      have lHS : (((List.replicate 43 (0 : Int32)).set 0 (((((List.replicate 43 (0 : Int32)).set 42 cf).set 0 ca).set 42 cb).getD 0 0)).set 42 (((((List.replicate 43 (0 : Int32)).set 42 cf).set 0 ca).set 42 cb).getD 42 0)).length = 43 := by simp
      have hab : ¬ own_tok ((((List.replicate 43 (0 : Int32)).set 42 cf).set 0 ca).set 42 cb) := fun q => absurd (lCS.symm.trans q.1) (by decide)
      refine k_iload X762 at_144 rfl (pc' := 146) rfl ?_
      refine k_bipush X762 at_146 (w := (87 : Int32)) rfl (pc' := 148) rfl ?_
      refine k_icmpYes X762 at_148 (by decide) (pc' := 165) (by decide) (by decide) ?_
      refine k_iconst X762 at_165 (w := (0 : Int32)) rfl (pc' := 166) rfl ?_
      refine k_istore X762 at_166 (Ls' := #[.val (.int p0), .val (.int p1), .val (.int p2), .val (.int p3), .val (.int p4), .val (.int p5), .val (.ref t_473), .val (.int (1 : Int32)), .val (.int (43 : Int32)), .val (.ref b757), .val (.int (0 : Int32)), .unset, .unset, .unset]) rfl (pc' := 168) rfl ?_
      refine k_newO X762 at_168 (w_5 hw) (w_6 hw) (w_7 hw) (by decide) (by decide) (pc' := 171) rfl fun T765 h765 b765 g765 X765 K765 E765 D765 S765 lt765 ge765 => ?_
      have sz_h765 := K765.1
      have K0_h765 : Keep h0 h765 [] := K0_h762.trans K765 all0
      have Fn765_coder : Fld Z h765 b765 "java/lang/String" "coder" "B" (.int (0 : Int32)) := D765 (Or.inr (w_31 hw)) (ty := .byte) (by decide)
      have Fn765_value : Fld Z h765 b765 "java/lang/String" "value" "[B" .null := D765 (Or.inr (w_33 hw)) (ty := (.array .byte)) (by decide)
      refine k_dup X765 at_171 rfl (pc' := 172) rfl ?_
      refine k_aload X765 at_172 rfl rfl (pc' := 174) rfl ?_
      have c766 := ((c761.keep K762 (ninS (own_ne (by omega) : t_473 ≠ b757) nin0)).keep K765 nin0)
      have ge772 : n0 ≤ b765 := by omega
      refine k_callPNF X765 (y := (⟨"java/lang/String", "<init>", "([C)V"⟩ : MethodName)) at_174 (w_8 hw) (w_9 hw) (w_7 hw) (w_10 hw) (by decide) rfl rfl (argsL := [(.ref t_473)]) (rest := [(.ref b765)]) (own_initS l Z a0 hw G n0 h765 X765.old b765 t_473 kt_474 (43 : Int32) (((((List.replicate 43 (0 : Int32)).set 42 cf).set 0 ca).set 42 cb).map Value.int) ((((List.replicate 43 (0 : Int32)).set 42 cf).set 0 ca).set 42 cb) rfl (by rw [lCS]; rfl) (by rw [lCS]; decide) (by rw [lCS]; decide) (by omega) E765 Fn765_value Fn765_coder c766) rfl pd_31 rfl rfl (by decide) (W := 1) (Nat.le_of_eq rfl) (by decide) (by decide) (by decide) (allS ⟨S765, ge772⟩ all0) (pc' := 177) rfl ?_
      rintro T773 h773 L773 X773 K773 ⟨t_767, kt_768, cd_769, zz_770, bs_771, q773_0, q773_1, q773_2, q773_3, q773_4, q773_5⟩
      have sz_h773 := K773.1
      have K0_h773 : Keep h0 h773 [] := K0_h765.trans K773 (allS (Or.inr (by omega)) all0)
      have lt773_0 := own_n q773_0.lt
      have lt773_1 := own_n q773_1.lt
      have lt773_2 := own_n q773_2.lt
      have lt773_3 := own_n q773_3.lt
      refine k_astore X773 at_177 rfl (Ls' := #[.val (.int p0), .val (.int p1), .val (.int p2), .val (.int p3), .val (.int p4), .val (.int p5), .val (.ref t_473), .val (.int (1 : Int32)), .val (.int (43 : Int32)), .val (.ref b757), .val (.int (0 : Int32)), .val (.ref b765), .unset, .unset]) rfl (pc' := 179) rfl ?_
      have c774 := ((V762.keep K765 nin0).keep K773 (ninS (own_ne (by omega) : b757 ≠ b765) nin0))
      exact tail _ _ _ _ _ _ _ _ _ _ _ _ _ _ _ _ ((((List.replicate 43 (0 : Int32)).set 42 cf).set 0 ca).set 42 cb) (((List.replicate 43 (0 : Int32)).set 0 (((((List.replicate 43 (0 : Int32)).set 42 cf).set 0 ca).set 42 cb).getD 0 0)).set 42 (((((List.replicate 43 (0 : Int32)).set 42 cf).set 0 ca).set 42 cb).getD 42 0)) hCS (by rw [lCS]; decide) hHS lHS (Or.inr ⟨rfl, hab⟩) q773_5 (X773.up (by decide) (by decide)) K0_h773 q773_0 q773_2 q773_1 q773_3 c774
  · refine k_astore X476 at_7 rfl (Ls' := #[.val (.int p0), .val (.int p1), .val (.int p2), .val (.int p3), .val (.int p4), .val (.int p5), .val (.ref t_473), .unset, .unset, .unset, .unset, .unset, .unset, .unset]) rfl (pc' := 9) rfl ?_
    refine k_iloadN X476 at_9 rfl (pc' := 10) rfl ?_
    refine k_iconst X476 at_10 (w := (3 : Int32)) rfl (pc' := 11) rfl ?_
    refine k_iushr X476 at_11 (w := ((p0.toUInt32 >>> ((3 : Int32) &&& 31).toUInt32).toInt32)) rfl (pc' := 12) rfl ?_
    refine k_iconst X476 at_12 (w := (1 : Int32)) rfl (pc' := 13) rfl ?_
    refine k_iand X476 at_13 (w := (((p0.toUInt32 >>> ((3 : Int32) &&& 31).toUInt32).toInt32) &&& (1 : Int32))) rfl (pc' := 14) rfl ?_
    by_cases hc775 : (((p0.toUInt32 >>> ((3 : Int32) &&& 31).toUInt32).toInt32) &&& (1 : Int32)) = (0 : Int32)
    · refine k_ifYes X476 at_14 ((if0 _ _).trans (teq hc775).1) (pc' := 21) (by decide) (by decide) ?_
      refine k_iconst X476 at_21 (w := (0 : Int32)) rfl (pc' := 22) rfl ?_
      refine k_istore X476 at_22 (Ls' := #[.val (.int p0), .val (.int p1), .val (.int p2), .val (.int p3), .val (.int p4), .val (.int p5), .val (.ref t_473), .val (.int (0 : Int32)), .unset, .unset, .unset, .unset, .unset, .unset]) rfl (pc' := 24) rfl ?_
      refine k_aload X476 at_24 rfl rfl (pc' := 26) rfl ?_
      refine k_arlen X476 at_26 q476_0 (pc' := 27) rfl ?_
      refine k_istore X476 at_27 (Ls' := #[.val (.int p0), .val (.int p1), .val (.int p2), .val (.int p3), .val (.int p4), .val (.int p5), .val (.ref t_473), .val (.int (0 : Int32)), .val (.int (1 : Int32)), .unset, .unset, .unset, .unset, .unset]) rfl (pc' := 29) rfl ?_
      refine k_iload X476 at_29 rfl (pc' := 31) rfl ?_
      refine k_ifNo X476 at_31 (by decide) (pc' := 34) rfl ?_
      refine k_aload X476 at_34 rfl rfl (pc' := 36) rfl ?_
      refine k_iload X476 at_36 rfl (pc' := 38) rfl ?_
      refine k_iconst X476 at_38 (w := (1 : Int32)) rfl (pc' := 39) rfl ?_
      refine k_isub X476 at_39 (w := (0 : Int32)) (by decide) (pc' := 40) rfl ?_
      refine k_iload X476 at_40 rfl (pc' := 42) rfl ?_
      refine k_i2c X476 at_42 (w := cf) hcf (pc' := 43) rfl ?_
      have ge777 : n0 ≤ t_473 := by omega
      refine k_castore X476 (w := cf) (0) at_43 q476_0 (by decide) (by decide) rfl (by simp) (own_i2c_id rcf.1 rcf.2) (vs' := (((List.replicate 1 (0 : Int32)).set 0 cf).map Value.int)) (own_mset _ _ _) (X476.sfA q476_0) ge777 (pc' := 44) rfl fun T776 h776 L776 X776 K776 V776 => ?_
      have sz_h776 := K776.1
      have K0_h776 : Keep h0 h776 [] := K0_h476.trans K776 (allS (Or.inr (by omega)) all0)
      refine k_iload X776 at_44 rfl (pc' := 46) rfl ?_
      refine k_ifNo X776 at_46 (by decide) (pc' := 49) rfl ?_
      refine k_aload X776 at_49 rfl rfl (pc' := 51) rfl ?_
      refine k_iconst X776 at_51 (w := (0 : Int32)) rfl (pc' := 52) rfl ?_
      refine k_iloadN X776 at_52 rfl (pc' := 53) rfl ?_
      refine k_i2c X776 at_53 (w := ca) hca (pc' := 54) rfl ?_
      have ge779 : n0 ≤ t_473 := by omega
      refine k_castore X776 (w := ca) (0) at_54 V776 (by decide) (by decide) rfl (by simp) (own_i2c_id rca.1 rca.2) (vs' := ((((List.replicate 1 (0 : Int32)).set 0 cf).set 0 ca).map Value.int)) (own_mset _ _ _) (X776.sfA V776) ge779 (pc' := 55) rfl fun T778 h778 L778 X778 K778 V778 => ?_
      have sz_h778 := K778.1
      have K0_h778 : Keep h0 h778 [] := K0_h776.trans K778 (allS (Or.inr (by omega)) all0)
      refine k_iload X778 at_55 rfl (pc' := 57) rfl ?_
      refine k_bipush X778 at_57 (w := (42 : Int32)) rfl (pc' := 59) rfl ?_
      refine k_icmpYes X778 at_59 (by decide) (pc' := 69) (by decide) (by decide) ?_
      refine k_iload X778 at_69 rfl (pc' := 71) rfl ?_
      refine k_bipush X778 at_71 (w := (43 : Int32)) rfl (pc' := 73) rfl ?_
      refine k_icmpYes X778 at_73 (by decide) (pc' := 93) (by decide) (by decide) ?_
      refine k_iload X778 at_93 rfl (pc' := 95) rfl ?_
      refine k_bipush X778 at_95 (w := (44 : Int32)) rfl (pc' := 97) rfl ?_
      refine k_icmpYes X778 at_97 (by decide) (pc' := 108) (by decide) (by decide) ?_
      refine k_bipush X778 at_108 (w := (43 : Int32)) rfl (pc' := 110) rfl ?_
      refine k_newP X778 at_110 (w_4 hw) (by decide) (cap := 43) (by decide) (by decide) (by decide) (by decide) (pc' := 112) rfl fun T780 h780 b780 k780 g780 X780 K780 V780 S780 lt780 ge780 => ?_
      have sz_h780 := K780.1
      have K0_h780 : Keep h0 h780 [] := K0_h778.trans K780 all0
      have Vh : Arv Z h780 b780 k780 .char (43 : Int32) ((List.replicate 43 (0 : Int32)).map Value.int) (.int (0 : Int32)) := Arv.pad V780 (own_padz 43)
      have hCS : own_chs (((List.replicate 1 (0 : Int32)).set 0 cf).set 0 ca) := (own_chs_set (own_chs_set (own_chs_rep 1) rcf) rca)
      have lCS : (((List.replicate 1 (0 : Int32)).set 0 cf).set 0 ca).length = 1 := by simp
      refine k_astore X780 at_112 rfl (Ls' := #[.val (.int p0), .val (.int p1), .val (.int p2), .val (.int p3), .val (.int p4), .val (.int p5), .val (.ref t_473), .val (.int (0 : Int32)), .val (.int (1 : Int32)), .val (.ref b780), .unset, .unset, .unset, .unset]) rfl (pc' := 114) rfl ?_
      refine k_iload X780 at_114 rfl (pc' := 116) rfl ?_
      refine k_ifNo X780 at_116 (by decide) (pc' := 119) rfl ?_
      refine k_aload X780 at_119 rfl rfl (pc' := 121) rfl ?_
      refine k_iconst X780 at_121 (w := (0 : Int32)) rfl (pc' := 122) rfl ?_
      refine k_aload X780 at_122 rfl rfl (pc' := 124) rfl ?_
      refine k_iconst X780 at_124 (w := (0 : Int32)) rfl (pc' := 125) rfl ?_
      have rg0 : ¬ ((((List.replicate 1 (0 : Int32)).set 0 cf).set 0 ca).getD 0 0) < 0 ∧ ¬ 65535 < ((((List.replicate 1 (0 : Int32)).set 0 cf).set 0 ca).getD 0 0) := own_chs_at hCS (by rw [lCS]; decide)
      have c781 := (V778.keep K780 nin0)
      refine k_caload X780 at_125 c781 (by decide) (by decide) (v := (.int ((((List.replicate 1 (0 : Int32)).set 0 cf).set 0 ca).getD 0 0))) (own_getc' (i := 0) (((List.replicate 1 (0 : Int32)).set 0 cf).set 0 ca) (by decide)) (pc' := 126) rfl ?_
      have ge783 : n0 ≤ b780 := by omega
      refine k_castore X780 (w := ((((List.replicate 1 (0 : Int32)).set 0 cf).set 0 ca).getD 0 0)) (0) at_126 Vh (by decide) (by decide) rfl (by simp) (own_i2c_id rg0.1 rg0.2) (vs' := (((List.replicate 43 (0 : Int32)).set 0 ((((List.replicate 1 (0 : Int32)).set 0 cf).set 0 ca).getD 0 0)).map Value.int)) (own_mset _ _ _) S780 ge783 (pc' := 127) rfl fun T782 h782 L782 X782 K782 V782 => ?_
      have sz_h782 := K782.1
      have K0_h782 : Keep h0 h782 [] := K0_h780.trans K782 (allS (Or.inr (by omega)) all0)
      have hHS : own_chs ((List.replicate 43 (0 : Int32)).set 0 ((((List.replicate 1 (0 : Int32)).set 0 cf).set 0 ca).getD 0 0)) := (own_chs_set (own_chs_rep 43) rg0)
      have lHS : ((List.replicate 43 (0 : Int32)).set 0 ((((List.replicate 1 (0 : Int32)).set 0 cf).set 0 ca).getD 0 0)).length = 43 := by simp
      have hab : ¬ own_tok (((List.replicate 1 (0 : Int32)).set 0 cf).set 0 ca) := fun q => absurd (lCS.symm.trans q.1) (by decide)
      refine k_iload X782 at_127 rfl (pc' := 129) rfl ?_
      refine k_bipush X782 at_129 (w := (42 : Int32)) rfl (pc' := 131) rfl ?_
      refine k_icmpYes X782 at_131 (by decide) (pc' := 144) (by decide) (by decide) ?_
      refine k_iload X782 at_144 rfl (pc' := 146) rfl ?_
      refine k_bipush X782 at_146 (w := (87 : Int32)) rfl (pc' := 148) rfl ?_
      refine k_icmpYes X782 at_148 (by decide) (pc' := 165) (by decide) (by decide) ?_
      refine k_iconst X782 at_165 (w := (0 : Int32)) rfl (pc' := 166) rfl ?_
      refine k_istore X782 at_166 (Ls' := #[.val (.int p0), .val (.int p1), .val (.int p2), .val (.int p3), .val (.int p4), .val (.int p5), .val (.ref t_473), .val (.int (0 : Int32)), .val (.int (1 : Int32)), .val (.ref b780), .val (.int (0 : Int32)), .unset, .unset, .unset]) rfl (pc' := 168) rfl ?_
      refine k_newO X782 at_168 (w_5 hw) (w_6 hw) (w_7 hw) (by decide) (by decide) (pc' := 171) rfl fun T784 h784 b784 g784 X784 K784 E784 D784 S784 lt784 ge784 => ?_
      have sz_h784 := K784.1
      have K0_h784 : Keep h0 h784 [] := K0_h782.trans K784 all0
      have Fn784_coder : Fld Z h784 b784 "java/lang/String" "coder" "B" (.int (0 : Int32)) := D784 (Or.inr (w_31 hw)) (ty := .byte) (by decide)
      have Fn784_value : Fld Z h784 b784 "java/lang/String" "value" "[B" .null := D784 (Or.inr (w_33 hw)) (ty := (.array .byte)) (by decide)
      refine k_dup X784 at_171 rfl (pc' := 172) rfl ?_
      refine k_aload X784 at_172 rfl rfl (pc' := 174) rfl ?_
      have c785 := ((c781.keep K782 (ninS (own_ne (by omega) : t_473 ≠ b780) nin0)).keep K784 nin0)
      have ge791 : n0 ≤ b784 := by omega
      refine k_callPNF X784 (y := (⟨"java/lang/String", "<init>", "([C)V"⟩ : MethodName)) at_174 (w_8 hw) (w_9 hw) (w_7 hw) (w_10 hw) (by decide) rfl rfl (argsL := [(.ref t_473)]) (rest := [(.ref b784)]) (own_initS l Z a0 hw G n0 h784 X784.old b784 t_473 kt_474 (1 : Int32) ((((List.replicate 1 (0 : Int32)).set 0 cf).set 0 ca).map Value.int) (((List.replicate 1 (0 : Int32)).set 0 cf).set 0 ca) rfl (by rw [lCS]; rfl) (by rw [lCS]; decide) (by rw [lCS]; decide) (by omega) E784 Fn784_value Fn784_coder c785) rfl pd_31 rfl rfl (by decide) (W := 1) (Nat.le_of_eq rfl) (by decide) (by decide) (by decide) (allS ⟨S784, ge791⟩ all0) (pc' := 177) rfl ?_
      rintro T792 h792 L792 X792 K792 ⟨t_786, kt_787, cd_788, zz_789, bs_790, q792_0, q792_1, q792_2, q792_3, q792_4, q792_5⟩
      have sz_h792 := K792.1
      have K0_h792 : Keep h0 h792 [] := K0_h784.trans K792 (allS (Or.inr (by omega)) all0)
      have lt792_0 := own_n q792_0.lt
      have lt792_1 := own_n q792_1.lt
      have lt792_2 := own_n q792_2.lt
      have lt792_3 := own_n q792_3.lt
      refine k_astore X792 at_177 rfl (Ls' := #[.val (.int p0), .val (.int p1), .val (.int p2), .val (.int p3), .val (.int p4), .val (.int p5), .val (.ref t_473), .val (.int (0 : Int32)), .val (.int (1 : Int32)), .val (.ref b780), .val (.int (0 : Int32)), .val (.ref b784), .unset, .unset]) rfl (pc' := 179) rfl ?_
      have c793 := ((V782.keep K784 nin0).keep K792 (ninS (own_ne (by omega) : b780 ≠ b784) nin0))
      exact tail _ _ _ _ _ _ _ _ _ _ _ _ _ _ _ _ (((List.replicate 1 (0 : Int32)).set 0 cf).set 0 ca) ((List.replicate 43 (0 : Int32)).set 0 ((((List.replicate 1 (0 : Int32)).set 0 cf).set 0 ca).getD 0 0)) hCS (by rw [lCS]; decide) hHS lHS (Or.inr ⟨rfl, hab⟩) q792_5 (X792.up (by decide) (by decide)) K0_h792 q792_0 q792_2 q792_1 q792_3 c793
    · refine k_ifNo X476 at_14 ((if0 _ _).trans (feq hc775).1) (pc' := 17) rfl ?_
      refine k_iconst X476 at_17 (w := (1 : Int32)) rfl (pc' := 18) rfl ?_
      refine k_goto X476 at_18 (pc' := 22) (by decide) (by decide) ?_
      refine k_istore X476 at_22 (Ls' := #[.val (.int p0), .val (.int p1), .val (.int p2), .val (.int p3), .val (.int p4), .val (.int p5), .val (.ref t_473), .val (.int (1 : Int32)), .unset, .unset, .unset, .unset, .unset, .unset]) rfl (pc' := 24) rfl ?_
      refine k_aload X476 at_24 rfl rfl (pc' := 26) rfl ?_
      refine k_arlen X476 at_26 q476_0 (pc' := 27) rfl ?_
      refine k_istore X476 at_27 (Ls' := #[.val (.int p0), .val (.int p1), .val (.int p2), .val (.int p3), .val (.int p4), .val (.int p5), .val (.ref t_473), .val (.int (1 : Int32)), .val (.int (1 : Int32)), .unset, .unset, .unset, .unset, .unset]) rfl (pc' := 29) rfl ?_
      refine k_iload X476 at_29 rfl (pc' := 31) rfl ?_
      refine k_ifNo X476 at_31 (by decide) (pc' := 34) rfl ?_
      refine k_aload X476 at_34 rfl rfl (pc' := 36) rfl ?_
      refine k_iload X476 at_36 rfl (pc' := 38) rfl ?_
      refine k_iconst X476 at_38 (w := (1 : Int32)) rfl (pc' := 39) rfl ?_
      refine k_isub X476 at_39 (w := (0 : Int32)) (by decide) (pc' := 40) rfl ?_
      refine k_iload X476 at_40 rfl (pc' := 42) rfl ?_
      refine k_i2c X476 at_42 (w := cf) hcf (pc' := 43) rfl ?_
      have ge795 : n0 ≤ t_473 := by omega
      refine k_castore X476 (w := cf) (0) at_43 q476_0 (by decide) (by decide) rfl (by simp) (own_i2c_id rcf.1 rcf.2) (vs' := (((List.replicate 1 (0 : Int32)).set 0 cf).map Value.int)) (own_mset _ _ _) (X476.sfA q476_0) ge795 (pc' := 44) rfl fun T794 h794 L794 X794 K794 V794 => ?_
      have sz_h794 := K794.1
      have K0_h794 : Keep h0 h794 [] := K0_h476.trans K794 (allS (Or.inr (by omega)) all0)
      refine k_iload X794 at_44 rfl (pc' := 46) rfl ?_
      refine k_ifNo X794 at_46 (by decide) (pc' := 49) rfl ?_
      refine k_aload X794 at_49 rfl rfl (pc' := 51) rfl ?_
      refine k_iconst X794 at_51 (w := (0 : Int32)) rfl (pc' := 52) rfl ?_
      refine k_iloadN X794 at_52 rfl (pc' := 53) rfl ?_
      refine k_i2c X794 at_53 (w := ca) hca (pc' := 54) rfl ?_
      have ge797 : n0 ≤ t_473 := by omega
      refine k_castore X794 (w := ca) (0) at_54 V794 (by decide) (by decide) rfl (by simp) (own_i2c_id rca.1 rca.2) (vs' := ((((List.replicate 1 (0 : Int32)).set 0 cf).set 0 ca).map Value.int)) (own_mset _ _ _) (X794.sfA V794) ge797 (pc' := 55) rfl fun T796 h796 L796 X796 K796 V796 => ?_
      have sz_h796 := K796.1
      have K0_h796 : Keep h0 h796 [] := K0_h794.trans K796 (allS (Or.inr (by omega)) all0)
      refine k_iload X796 at_55 rfl (pc' := 57) rfl ?_
      refine k_bipush X796 at_57 (w := (42 : Int32)) rfl (pc' := 59) rfl ?_
      refine k_icmpYes X796 at_59 (by decide) (pc' := 69) (by decide) (by decide) ?_
      refine k_iload X796 at_69 rfl (pc' := 71) rfl ?_
      refine k_bipush X796 at_71 (w := (43 : Int32)) rfl (pc' := 73) rfl ?_
      refine k_icmpYes X796 at_73 (by decide) (pc' := 93) (by decide) (by decide) ?_
      refine k_iload X796 at_93 rfl (pc' := 95) rfl ?_
      refine k_bipush X796 at_95 (w := (44 : Int32)) rfl (pc' := 97) rfl ?_
      refine k_icmpYes X796 at_97 (by decide) (pc' := 108) (by decide) (by decide) ?_
      refine k_bipush X796 at_108 (w := (43 : Int32)) rfl (pc' := 110) rfl ?_
      refine k_newP X796 at_110 (w_4 hw) (by decide) (cap := 43) (by decide) (by decide) (by decide) (by decide) (pc' := 112) rfl fun T798 h798 b798 k798 g798 X798 K798 V798 S798 lt798 ge798 => ?_
      have sz_h798 := K798.1
      have K0_h798 : Keep h0 h798 [] := K0_h796.trans K798 all0
      have Vh : Arv Z h798 b798 k798 .char (43 : Int32) ((List.replicate 43 (0 : Int32)).map Value.int) (.int (0 : Int32)) := Arv.pad V798 (own_padz 43)
      have hCS : own_chs (((List.replicate 1 (0 : Int32)).set 0 cf).set 0 ca) := (own_chs_set (own_chs_set (own_chs_rep 1) rcf) rca)
      have lCS : (((List.replicate 1 (0 : Int32)).set 0 cf).set 0 ca).length = 1 := by simp
      refine k_astore X798 at_112 rfl (Ls' := #[.val (.int p0), .val (.int p1), .val (.int p2), .val (.int p3), .val (.int p4), .val (.int p5), .val (.ref t_473), .val (.int (1 : Int32)), .val (.int (1 : Int32)), .val (.ref b798), .unset, .unset, .unset, .unset]) rfl (pc' := 114) rfl ?_
      refine k_iload X798 at_114 rfl (pc' := 116) rfl ?_
      refine k_ifNo X798 at_116 (by decide) (pc' := 119) rfl ?_
      refine k_aload X798 at_119 rfl rfl (pc' := 121) rfl ?_
      refine k_iconst X798 at_121 (w := (0 : Int32)) rfl (pc' := 122) rfl ?_
      refine k_aload X798 at_122 rfl rfl (pc' := 124) rfl ?_
      refine k_iconst X798 at_124 (w := (0 : Int32)) rfl (pc' := 125) rfl ?_
      have rg0 : ¬ ((((List.replicate 1 (0 : Int32)).set 0 cf).set 0 ca).getD 0 0) < 0 ∧ ¬ 65535 < ((((List.replicate 1 (0 : Int32)).set 0 cf).set 0 ca).getD 0 0) := own_chs_at hCS (by rw [lCS]; decide)
      have c799 := (V796.keep K798 nin0)
      refine k_caload X798 at_125 c799 (by decide) (by decide) (v := (.int ((((List.replicate 1 (0 : Int32)).set 0 cf).set 0 ca).getD 0 0))) (own_getc' (i := 0) (((List.replicate 1 (0 : Int32)).set 0 cf).set 0 ca) (by decide)) (pc' := 126) rfl ?_
      have ge801 : n0 ≤ b798 := by omega
      refine k_castore X798 (w := ((((List.replicate 1 (0 : Int32)).set 0 cf).set 0 ca).getD 0 0)) (0) at_126 Vh (by decide) (by decide) rfl (by simp) (own_i2c_id rg0.1 rg0.2) (vs' := (((List.replicate 43 (0 : Int32)).set 0 ((((List.replicate 1 (0 : Int32)).set 0 cf).set 0 ca).getD 0 0)).map Value.int)) (own_mset _ _ _) S798 ge801 (pc' := 127) rfl fun T800 h800 L800 X800 K800 V800 => ?_
      have sz_h800 := K800.1
      have K0_h800 : Keep h0 h800 [] := K0_h798.trans K800 (allS (Or.inr (by omega)) all0)
      have hHS : own_chs ((List.replicate 43 (0 : Int32)).set 0 ((((List.replicate 1 (0 : Int32)).set 0 cf).set 0 ca).getD 0 0)) := (own_chs_set (own_chs_rep 43) rg0)
      have lHS : ((List.replicate 43 (0 : Int32)).set 0 ((((List.replicate 1 (0 : Int32)).set 0 cf).set 0 ca).getD 0 0)).length = 43 := by simp
      have hab : ¬ own_tok (((List.replicate 1 (0 : Int32)).set 0 cf).set 0 ca) := fun q => absurd (lCS.symm.trans q.1) (by decide)
      refine k_iload X800 at_127 rfl (pc' := 129) rfl ?_
      refine k_bipush X800 at_129 (w := (42 : Int32)) rfl (pc' := 131) rfl ?_
      refine k_icmpYes X800 at_131 (by decide) (pc' := 144) (by decide) (by decide) ?_
      refine k_iload X800 at_144 rfl (pc' := 146) rfl ?_
      refine k_bipush X800 at_146 (w := (87 : Int32)) rfl (pc' := 148) rfl ?_
      refine k_icmpYes X800 at_148 (by decide) (pc' := 165) (by decide) (by decide) ?_
      refine k_iconst X800 at_165 (w := (0 : Int32)) rfl (pc' := 166) rfl ?_
      refine k_istore X800 at_166 (Ls' := #[.val (.int p0), .val (.int p1), .val (.int p2), .val (.int p3), .val (.int p4), .val (.int p5), .val (.ref t_473), .val (.int (1 : Int32)), .val (.int (1 : Int32)), .val (.ref b798), .val (.int (0 : Int32)), .unset, .unset, .unset]) rfl (pc' := 168) rfl ?_
      refine k_newO X800 at_168 (w_5 hw) (w_6 hw) (w_7 hw) (by decide) (by decide) (pc' := 171) rfl fun T802 h802 b802 g802 X802 K802 E802 D802 S802 lt802 ge802 => ?_
      have sz_h802 := K802.1
      have K0_h802 : Keep h0 h802 [] := K0_h800.trans K802 all0
      have Fn802_coder : Fld Z h802 b802 "java/lang/String" "coder" "B" (.int (0 : Int32)) := D802 (Or.inr (w_31 hw)) (ty := .byte) (by decide)
      have Fn802_value : Fld Z h802 b802 "java/lang/String" "value" "[B" .null := D802 (Or.inr (w_33 hw)) (ty := (.array .byte)) (by decide)
      refine k_dup X802 at_171 rfl (pc' := 172) rfl ?_
      refine k_aload X802 at_172 rfl rfl (pc' := 174) rfl ?_
      have c803 := ((c799.keep K800 (ninS (own_ne (by omega) : t_473 ≠ b798) nin0)).keep K802 nin0)
      have ge809 : n0 ≤ b802 := by omega
      refine k_callPNF X802 (y := (⟨"java/lang/String", "<init>", "([C)V"⟩ : MethodName)) at_174 (w_8 hw) (w_9 hw) (w_7 hw) (w_10 hw) (by decide) rfl rfl (argsL := [(.ref t_473)]) (rest := [(.ref b802)]) (own_initS l Z a0 hw G n0 h802 X802.old b802 t_473 kt_474 (1 : Int32) ((((List.replicate 1 (0 : Int32)).set 0 cf).set 0 ca).map Value.int) (((List.replicate 1 (0 : Int32)).set 0 cf).set 0 ca) rfl (by rw [lCS]; rfl) (by rw [lCS]; decide) (by rw [lCS]; decide) (by omega) E802 Fn802_value Fn802_coder c803) rfl pd_31 rfl rfl (by decide) (W := 1) (Nat.le_of_eq rfl) (by decide) (by decide) (by decide) (allS ⟨S802, ge809⟩ all0) (pc' := 177) rfl ?_
      rintro T810 h810 L810 X810 K810 ⟨t_804, kt_805, cd_806, zz_807, bs_808, q810_0, q810_1, q810_2, q810_3, q810_4, q810_5⟩
      have sz_h810 := K810.1
      have K0_h810 : Keep h0 h810 [] := K0_h802.trans K810 (allS (Or.inr (by omega)) all0)
      have lt810_0 := own_n q810_0.lt
      have lt810_1 := own_n q810_1.lt
      have lt810_2 := own_n q810_2.lt
      have lt810_3 := own_n q810_3.lt
      refine k_astore X810 at_177 rfl (Ls' := #[.val (.int p0), .val (.int p1), .val (.int p2), .val (.int p3), .val (.int p4), .val (.int p5), .val (.ref t_473), .val (.int (1 : Int32)), .val (.int (1 : Int32)), .val (.ref b798), .val (.int (0 : Int32)), .val (.ref b802), .unset, .unset]) rfl (pc' := 179) rfl ?_
      have c811 := ((V800.keep K802 nin0).keep K810 (ninS (own_ne (by omega) : b798 ≠ b802) nin0))
      exact tail _ _ _ _ _ _ _ _ _ _ _ _ _ _ _ _ (((List.replicate 1 (0 : Int32)).set 0 cf).set 0 ca) ((List.replicate 43 (0 : Int32)).set 0 ((((List.replicate 1 (0 : Int32)).set 0 cf).set 0 ca).getD 0 0)) hCS (by rw [lCS]; decide) hHS lHS (Or.inr ⟨rfl, hab⟩) q810_5 (X810.up (by decide) (by decide)) K0_h810 q810_0 q810_2 q810_1 q810_3 c811
  · refine k_astore X476 at_7 rfl (Ls' := #[.val (.int p0), .val (.int p1), .val (.int p2), .val (.int p3), .val (.int p4), .val (.int p5), .val (.ref t_473), .unset, .unset, .unset, .unset, .unset, .unset, .unset]) rfl (pc' := 9) rfl ?_
    refine k_iloadN X476 at_9 rfl (pc' := 10) rfl ?_
    refine k_iconst X476 at_10 (w := (3 : Int32)) rfl (pc' := 11) rfl ?_
    refine k_iushr X476 at_11 (w := ((p0.toUInt32 >>> ((3 : Int32) &&& 31).toUInt32).toInt32)) rfl (pc' := 12) rfl ?_
    refine k_iconst X476 at_12 (w := (1 : Int32)) rfl (pc' := 13) rfl ?_
    refine k_iand X476 at_13 (w := (((p0.toUInt32 >>> ((3 : Int32) &&& 31).toUInt32).toInt32) &&& (1 : Int32))) rfl (pc' := 14) rfl ?_
    by_cases hc812 : (((p0.toUInt32 >>> ((3 : Int32) &&& 31).toUInt32).toInt32) &&& (1 : Int32)) = (0 : Int32)
    · refine k_ifYes X476 at_14 ((if0 _ _).trans (teq hc812).1) (pc' := 21) (by decide) (by decide) ?_
      refine k_iconst X476 at_21 (w := (0 : Int32)) rfl (pc' := 22) rfl ?_
      refine k_istore X476 at_22 (Ls' := #[.val (.int p0), .val (.int p1), .val (.int p2), .val (.int p3), .val (.int p4), .val (.int p5), .val (.ref t_473), .val (.int (0 : Int32)), .unset, .unset, .unset, .unset, .unset, .unset]) rfl (pc' := 24) rfl ?_
      refine k_aload X476 at_24 rfl rfl (pc' := 26) rfl ?_
      refine k_arlen X476 at_26 q476_0 (pc' := 27) rfl ?_
      refine k_istore X476 at_27 (Ls' := #[.val (.int p0), .val (.int p1), .val (.int p2), .val (.int p3), .val (.int p4), .val (.int p5), .val (.ref t_473), .val (.int (0 : Int32)), .val (.int (0 : Int32)), .unset, .unset, .unset, .unset, .unset]) rfl (pc' := 29) rfl ?_
      refine k_iload X476 at_29 rfl (pc' := 31) rfl ?_
      refine k_ifYes X476 at_31 (by decide) (pc' := 44) (by decide) (by decide) ?_
      refine k_iload X476 at_44 rfl (pc' := 46) rfl ?_
      refine k_ifYes X476 at_46 (by decide) (pc' := 55) (by decide) (by decide) ?_
      refine k_iload X476 at_55 rfl (pc' := 57) rfl ?_
      refine k_bipush X476 at_57 (w := (42 : Int32)) rfl (pc' := 59) rfl ?_
      refine k_icmpYes X476 at_59 (by decide) (pc' := 69) (by decide) (by decide) ?_
      refine k_iload X476 at_69 rfl (pc' := 71) rfl ?_
      refine k_bipush X476 at_71 (w := (43 : Int32)) rfl (pc' := 73) rfl ?_
      refine k_icmpYes X476 at_73 (by decide) (pc' := 93) (by decide) (by decide) ?_
      refine k_iload X476 at_93 rfl (pc' := 95) rfl ?_
      refine k_bipush X476 at_95 (w := (44 : Int32)) rfl (pc' := 97) rfl ?_
      refine k_icmpYes X476 at_97 (by decide) (pc' := 108) (by decide) (by decide) ?_
      refine k_bipush X476 at_108 (w := (43 : Int32)) rfl (pc' := 110) rfl ?_
      refine k_newP X476 at_110 (w_4 hw) (by decide) (cap := 43) (by decide) (by decide) (by decide) (by decide) (pc' := 112) rfl fun T813 h813 b813 k813 g813 X813 K813 V813 S813 lt813 ge813 => ?_
      have sz_h813 := K813.1
      have K0_h813 : Keep h0 h813 [] := K0_h476.trans K813 all0
      have Vh : Arv Z h813 b813 k813 .char (43 : Int32) ((List.replicate 43 (0 : Int32)).map Value.int) (.int (0 : Int32)) := Arv.pad V813 (own_padz 43)
      have hCS : own_chs (List.replicate 0 (0 : Int32)) := (own_chs_rep 0)
      have lCS : (List.replicate 0 (0 : Int32)).length = 0 := by simp
      have hHS : own_chs (List.replicate 43 (0 : Int32)) := (own_chs_rep 43)
      have lHS : (List.replicate 43 (0 : Int32)).length = 43 := by simp
      have hab : ¬ own_tok (List.replicate 0 (0 : Int32)) := fun q => absurd (lCS.symm.trans q.1) (by decide)
      refine k_astore X813 at_112 rfl (Ls' := #[.val (.int p0), .val (.int p1), .val (.int p2), .val (.int p3), .val (.int p4), .val (.int p5), .val (.ref t_473), .val (.int (0 : Int32)), .val (.int (0 : Int32)), .val (.ref b813), .unset, .unset, .unset, .unset]) rfl (pc' := 114) rfl ?_
      refine k_iload X813 at_114 rfl (pc' := 116) rfl ?_
      refine k_ifYes X813 at_116 (by decide) (pc' := 127) (by decide) (by decide) ?_
      refine k_iload X813 at_127 rfl (pc' := 129) rfl ?_
      refine k_bipush X813 at_129 (w := (42 : Int32)) rfl (pc' := 131) rfl ?_
      refine k_icmpYes X813 at_131 (by decide) (pc' := 144) (by decide) (by decide) ?_
      refine k_iload X813 at_144 rfl (pc' := 146) rfl ?_
      refine k_bipush X813 at_146 (w := (87 : Int32)) rfl (pc' := 148) rfl ?_
      refine k_icmpYes X813 at_148 (by decide) (pc' := 165) (by decide) (by decide) ?_
      refine k_iconst X813 at_165 (w := (0 : Int32)) rfl (pc' := 166) rfl ?_
      refine k_istore X813 at_166 (Ls' := #[.val (.int p0), .val (.int p1), .val (.int p2), .val (.int p3), .val (.int p4), .val (.int p5), .val (.ref t_473), .val (.int (0 : Int32)), .val (.int (0 : Int32)), .val (.ref b813), .val (.int (0 : Int32)), .unset, .unset, .unset]) rfl (pc' := 168) rfl ?_
      refine k_newO X813 at_168 (w_5 hw) (w_6 hw) (w_7 hw) (by decide) (by decide) (pc' := 171) rfl fun T814 h814 b814 g814 X814 K814 E814 D814 S814 lt814 ge814 => ?_
      have sz_h814 := K814.1
      have K0_h814 : Keep h0 h814 [] := K0_h813.trans K814 all0
      have Fn814_coder : Fld Z h814 b814 "java/lang/String" "coder" "B" (.int (0 : Int32)) := D814 (Or.inr (w_31 hw)) (ty := .byte) (by decide)
      have Fn814_value : Fld Z h814 b814 "java/lang/String" "value" "[B" .null := D814 (Or.inr (w_33 hw)) (ty := (.array .byte)) (by decide)
      refine k_dup X814 at_171 rfl (pc' := 172) rfl ?_
      refine k_aload X814 at_172 rfl rfl (pc' := 174) rfl ?_
      have c815 := ((q476_0.keep K813 nin0).keep K814 nin0)
      have ge818 : n0 ≤ b814 := by omega
      refine k_callPNH X814 (y := (⟨"java/lang/String", "<init>", "([C)V"⟩ : MethodName)) at_174 (w_8 hw) (w_9 hw) (w_7 hw) (w_10 hw) (by decide) rfl rfl (argsL := [(.ref t_473)]) (rest := [(.ref b814)]) (own_initE l Z a0 hw G n0 h814 X814.old b814 t_473 kt_474 ((List.replicate 0 (0 : Int32)).map Value.int) (.int (0 : Int32)) (by omega) E814 Fn814_value Fn814_coder c815) rfl pd_31 rfl rfl (by decide) (W := 1) (Nat.le_of_eq rfl) (by decide) (by decide) (by decide) (allS ⟨⟨own_n (by omega), S814⟩, ge818⟩ all0) (pc' := 177) rfl ?_
      rintro v819 T819 h819 L819 X819 K819 C819 ⟨t_816, kt_817, q819_0, q819_1, q819_2, q819_3⟩
      have sz_h819 := K819.1
      have K0_h819 : Keep h0 h819 [] := K0_h814.trans K819 (allS (Or.inr (by omega)) all0)
      have lt819_0 := own_n q819_0.lt
      have lt819_1 := own_n q819_1.lt
      have lt819_2 := own_n q819_2.lt
      have lt819_3 := own_n q819_3.lt
      refine k_astore X819 at_177 rfl (Ls' := #[.val (.int p0), .val (.int p1), .val (.int p2), .val (.int p3), .val (.int p4), .val (.int p5), .val (.ref t_473), .val (.int (0 : Int32)), .val (.int (0 : Int32)), .val (.ref b813), .val (.int (0 : Int32)), .val (.ref b814), .unset, .unset]) rfl (pc' := 179) rfl ?_
      have hcod : own_cod (List.replicate 0 (0 : Int32)) (0 : Int32) (0 : Int32) [] := Or.inl ⟨rfl, rfl, rfl, rfl⟩
      have c820 := ((Vh.keep K814 nin0).keep K819 (ninS (own_ne (by omega) : b813 ≠ b814) nin0))
      exact tail _ _ _ _ _ _ _ _ _ _ _ _ _ _ _ _ (List.replicate 0 (0 : Int32)) (List.replicate 43 (0 : Int32)) hCS (by rw [lCS]; decide) hHS lHS (Or.inr ⟨rfl, hab⟩) hcod (X819.up (by decide) (by decide)) K0_h819 q819_0 q819_2 q819_1 q819_3 c820
    · refine k_ifNo X476 at_14 ((if0 _ _).trans (feq hc812).1) (pc' := 17) rfl ?_
      refine k_iconst X476 at_17 (w := (1 : Int32)) rfl (pc' := 18) rfl ?_
      refine k_goto X476 at_18 (pc' := 22) (by decide) (by decide) ?_
      refine k_istore X476 at_22 (Ls' := #[.val (.int p0), .val (.int p1), .val (.int p2), .val (.int p3), .val (.int p4), .val (.int p5), .val (.ref t_473), .val (.int (1 : Int32)), .unset, .unset, .unset, .unset, .unset, .unset]) rfl (pc' := 24) rfl ?_
      refine k_aload X476 at_24 rfl rfl (pc' := 26) rfl ?_
      refine k_arlen X476 at_26 q476_0 (pc' := 27) rfl ?_
      refine k_istore X476 at_27 (Ls' := #[.val (.int p0), .val (.int p1), .val (.int p2), .val (.int p3), .val (.int p4), .val (.int p5), .val (.ref t_473), .val (.int (1 : Int32)), .val (.int (0 : Int32)), .unset, .unset, .unset, .unset, .unset]) rfl (pc' := 29) rfl ?_
      refine k_iload X476 at_29 rfl (pc' := 31) rfl ?_
      refine k_ifYes X476 at_31 (by decide) (pc' := 44) (by decide) (by decide) ?_
      refine k_iload X476 at_44 rfl (pc' := 46) rfl ?_
      refine k_ifYes X476 at_46 (by decide) (pc' := 55) (by decide) (by decide) ?_
      refine k_iload X476 at_55 rfl (pc' := 57) rfl ?_
      refine k_bipush X476 at_57 (w := (42 : Int32)) rfl (pc' := 59) rfl ?_
      refine k_icmpYes X476 at_59 (by decide) (pc' := 69) (by decide) (by decide) ?_
      refine k_iload X476 at_69 rfl (pc' := 71) rfl ?_
      refine k_bipush X476 at_71 (w := (43 : Int32)) rfl (pc' := 73) rfl ?_
      refine k_icmpYes X476 at_73 (by decide) (pc' := 93) (by decide) (by decide) ?_
      refine k_iload X476 at_93 rfl (pc' := 95) rfl ?_
      refine k_bipush X476 at_95 (w := (44 : Int32)) rfl (pc' := 97) rfl ?_
      refine k_icmpYes X476 at_97 (by decide) (pc' := 108) (by decide) (by decide) ?_
      refine k_bipush X476 at_108 (w := (43 : Int32)) rfl (pc' := 110) rfl ?_
      refine k_newP X476 at_110 (w_4 hw) (by decide) (cap := 43) (by decide) (by decide) (by decide) (by decide) (pc' := 112) rfl fun T821 h821 b821 k821 g821 X821 K821 V821 S821 lt821 ge821 => ?_
      have sz_h821 := K821.1
      have K0_h821 : Keep h0 h821 [] := K0_h476.trans K821 all0
      have Vh : Arv Z h821 b821 k821 .char (43 : Int32) ((List.replicate 43 (0 : Int32)).map Value.int) (.int (0 : Int32)) := Arv.pad V821 (own_padz 43)
      have hCS : own_chs (List.replicate 0 (0 : Int32)) := (own_chs_rep 0)
      have lCS : (List.replicate 0 (0 : Int32)).length = 0 := by simp
      have hHS : own_chs (List.replicate 43 (0 : Int32)) := (own_chs_rep 43)
      have lHS : (List.replicate 43 (0 : Int32)).length = 43 := by simp
      have hab : ¬ own_tok (List.replicate 0 (0 : Int32)) := fun q => absurd (lCS.symm.trans q.1) (by decide)
      refine k_astore X821 at_112 rfl (Ls' := #[.val (.int p0), .val (.int p1), .val (.int p2), .val (.int p3), .val (.int p4), .val (.int p5), .val (.ref t_473), .val (.int (1 : Int32)), .val (.int (0 : Int32)), .val (.ref b821), .unset, .unset, .unset, .unset]) rfl (pc' := 114) rfl ?_
      refine k_iload X821 at_114 rfl (pc' := 116) rfl ?_
      refine k_ifYes X821 at_116 (by decide) (pc' := 127) (by decide) (by decide) ?_
      refine k_iload X821 at_127 rfl (pc' := 129) rfl ?_
      refine k_bipush X821 at_129 (w := (42 : Int32)) rfl (pc' := 131) rfl ?_
      refine k_icmpYes X821 at_131 (by decide) (pc' := 144) (by decide) (by decide) ?_
      refine k_iload X821 at_144 rfl (pc' := 146) rfl ?_
      refine k_bipush X821 at_146 (w := (87 : Int32)) rfl (pc' := 148) rfl ?_
      refine k_icmpYes X821 at_148 (by decide) (pc' := 165) (by decide) (by decide) ?_
      refine k_iconst X821 at_165 (w := (0 : Int32)) rfl (pc' := 166) rfl ?_
      refine k_istore X821 at_166 (Ls' := #[.val (.int p0), .val (.int p1), .val (.int p2), .val (.int p3), .val (.int p4), .val (.int p5), .val (.ref t_473), .val (.int (1 : Int32)), .val (.int (0 : Int32)), .val (.ref b821), .val (.int (0 : Int32)), .unset, .unset, .unset]) rfl (pc' := 168) rfl ?_
      refine k_newO X821 at_168 (w_5 hw) (w_6 hw) (w_7 hw) (by decide) (by decide) (pc' := 171) rfl fun T822 h822 b822 g822 X822 K822 E822 D822 S822 lt822 ge822 => ?_
      have sz_h822 := K822.1
      have K0_h822 : Keep h0 h822 [] := K0_h821.trans K822 all0
      have Fn822_coder : Fld Z h822 b822 "java/lang/String" "coder" "B" (.int (0 : Int32)) := D822 (Or.inr (w_31 hw)) (ty := .byte) (by decide)
      have Fn822_value : Fld Z h822 b822 "java/lang/String" "value" "[B" .null := D822 (Or.inr (w_33 hw)) (ty := (.array .byte)) (by decide)
      refine k_dup X822 at_171 rfl (pc' := 172) rfl ?_
      refine k_aload X822 at_172 rfl rfl (pc' := 174) rfl ?_
      have c823 := ((q476_0.keep K821 nin0).keep K822 nin0)
      have ge826 : n0 ≤ b822 := by omega
      refine k_callPNH X822 (y := (⟨"java/lang/String", "<init>", "([C)V"⟩ : MethodName)) at_174 (w_8 hw) (w_9 hw) (w_7 hw) (w_10 hw) (by decide) rfl rfl (argsL := [(.ref t_473)]) (rest := [(.ref b822)]) (own_initE l Z a0 hw G n0 h822 X822.old b822 t_473 kt_474 ((List.replicate 0 (0 : Int32)).map Value.int) (.int (0 : Int32)) (by omega) E822 Fn822_value Fn822_coder c823) rfl pd_31 rfl rfl (by decide) (W := 1) (Nat.le_of_eq rfl) (by decide) (by decide) (by decide) (allS ⟨⟨own_n (by omega), S822⟩, ge826⟩ all0) (pc' := 177) rfl ?_
      rintro v827 T827 h827 L827 X827 K827 C827 ⟨t_824, kt_825, q827_0, q827_1, q827_2, q827_3⟩
      have sz_h827 := K827.1
      have K0_h827 : Keep h0 h827 [] := K0_h822.trans K827 (allS (Or.inr (by omega)) all0)
      have lt827_0 := own_n q827_0.lt
      have lt827_1 := own_n q827_1.lt
      have lt827_2 := own_n q827_2.lt
      have lt827_3 := own_n q827_3.lt
      refine k_astore X827 at_177 rfl (Ls' := #[.val (.int p0), .val (.int p1), .val (.int p2), .val (.int p3), .val (.int p4), .val (.int p5), .val (.ref t_473), .val (.int (1 : Int32)), .val (.int (0 : Int32)), .val (.ref b821), .val (.int (0 : Int32)), .val (.ref b822), .unset, .unset]) rfl (pc' := 179) rfl ?_
      have hcod : own_cod (List.replicate 0 (0 : Int32)) (0 : Int32) (0 : Int32) [] := Or.inl ⟨rfl, rfl, rfl, rfl⟩
      have c828 := ((Vh.keep K822 nin0).keep K827 (ninS (own_ne (by omega) : b821 ≠ b822) nin0))
      exact tail _ _ _ _ _ _ _ _ _ _ _ _ _ _ _ _ (List.replicate 0 (0 : Int32)) (List.replicate 43 (0 : Int32)) hCS (by rw [lCS]; decide) hHS lHS (Or.inr ⟨rfl, hab⟩) hcod (X827.up (by decide) (by decide)) K0_h827 q827_0 q827_2 q827_1 q827_3 c828
set_option maxRecDepth 65536 in
set_option maxHeartbeats 40000000 in
theorem comes_1 {Post : Tables → Env → Array Value → State → Outcome → State → Prop} (hpost : ∀ tb e args s v u, (limb_1_1.after args s (.returned v) u = true ∧ limb_1_2.after args s (.returned v) u = true ∧ True) → ReturnedEndW s (.returned v) u (Jvm.fieldLocs frame_1_writes args s ++ Jvm.arrayLocs frame_1_arrays args s ++ Jvm.staticLocs frame_1_statics s) 40 2432 → Post tb e args s (.returned v) u) :
    ArmFor flags0 classFile x code maxLocals ret World_1 tables_1 room_1 Calls_1 rest_1 Pre_1 Post := by
  intro l hfl _ _ p e ha hc hk s m args below hf hA hF happ hP
  obtain ⟨hcalls, hrest, hpre⟩ := hP
  obtain ⟨-, -, -, hnamed, -, -, -, hat⟩ := (Spec.applies_iff hf).mp happ
  obtain ⟨hg, hn⟩ := and_e (Cond.before_iff.mp (show (Jvm.Cond.and given_1 narrow_1).before args s = true from hpre))
  obtain ⟨hcnt, g0⟩ := and_e hg
  obtain ⟨j0, g1⟩ := and_e g0
  obtain ⟨j1, g2⟩ := and_e g1
  obtain ⟨j2, g3⟩ := and_e g2
  obtain ⟨j3, g4⟩ := and_e g3
  obtain ⟨j4, g5⟩ := and_e g4
  obtain ⟨w0, w1, w2, w3, w4, w5, rfl⟩ : ∃ w0 w1 w2 w3 w4 w5 : Value, args = #[w0, w1, w2, w3, w4, w5] := by
    have hs : args.size = 6 := by simpa [Cond.value, given_1] using hcnt
    obtain ⟨L⟩ := args
    match L, hs with
    | [w0, w1, w2, w3, w4, w5], _ => exact ⟨w0, w1, w2, w3, w4, w5, rfl⟩
  have hw := fun d (hd : d ∈ tables_1) => atoms_spec (ws := Jvm.Cond.code x code maxLocals ret :: tables_1) hat d (List.mem_cons_of_mem _ hd)
  obtain ⟨hsets, hown0⟩ := atoms_of _ (rest_1_c_eq ▸ (show rest_1_c.before _ s = true from hrest))
  have hfit : Fit s := fun {y c} hc i hi => by
    obtain ⟨ha, rfl⟩ := Array.getElem?_eq_some_iff.mp hc
    have q := List.all_eq_true.mp ((Array.all_eq_true_iff_forall_mem.mp hF) _ (Array.getElem_mem ha)) i (List.mem_range.mpr hi)
    simpa [Array.getElem?_eq_getElem hi] using q
  obtain ⟨i0, e0⟩ := is_v j0
  obtain rfl : w0 = (.int i0) := Option.some.inj e0
  obtain ⟨i1, e1⟩ := is_v j1
  obtain rfl : w1 = (.int i1) := Option.some.inj e1
  obtain ⟨i2, e2⟩ := is_v j2
  obtain rfl : w2 = (.int i2) := Option.some.inj e2
  obtain ⟨i3, e3⟩ := is_v j3
  obtain rfl : w3 = (.int i3) := Option.some.inj e3
  obtain ⟨i4, e4⟩ := is_v j4
  obtain rfl : w4 = (.int i4) := Option.some.inj e4
  obtain ⟨i5, e5⟩ := is_v g5
  obtain rfl : w5 = (.int i5) := Option.some.inj e5
  obtain ⟨zc, ezc⟩ := is_v (Cond.before_iff.mp (hsets _ (List.mem_of_getElem? (i := 1) rfl)))
  have nzc := not_v (Cond.before_iff.mp (hsets _ (List.mem_of_getElem? (i := 2) rfl)))
  obtain ⟨fm, efm, rfm⟩ := isR_v (Cond.before_iff.mp (hsets _ (List.mem_of_getElem? (i := 8) rfl)))
  obtain ⟨em, _, _, _, e_em, -⟩ := Cond.exactly_spec (hsets _ (List.mem_of_getElem? (i := 11) rfl))
  have G : Gl s zc fm em := ⟨Sta.start ezc (Or.inl (hsets _ (List.mem_of_getElem? (i := 0) rfl))), gotF (Cond.eq_ints ezc (Term.int_eval (0))) nzc, Sta.start efm (Or.inl (hsets _ (List.mem_of_getElem? (i := 7) rfl))), rfm, Sta.start (own_eq_int (Cond.before_iff.mp (hsets _ (List.mem_of_getElem? (i := 16) rfl)))) (Or.inl (hsets _ (List.mem_of_getElem? (i := 15) rfl))), Sta.start (own_eq_int (Cond.before_iff.mp (hsets _ (List.mem_of_getElem? (i := 19) rfl)))) (Or.inl (hsets _ (List.mem_of_getElem? (i := 18) rfl))), Sta.start (own_eq_int (Cond.before_iff.mp (hsets _ (List.mem_of_getElem? (i := 22) rfl)))) (Or.inl (hsets _ (List.mem_of_getElem? (i := 21) rfl))), Sta.start e_em (Or.inl (hsets _ (List.mem_of_getElem? (i := 10) rfl))), Exa.start e_em (Cond.before_iff.mp (hsets _ (List.mem_of_getElem? (i := 11) rfl))), own_field_start e_em (own_ref_start (Cond.before_iff.mp (hsets _ (List.mem_of_getElem? (i := 12) rfl))) (y := .null) rfl rfl)⟩
  have hh := hcalls.1
  have hcw : Jvm.Lit.compactW.before #[(.int i0), (.int i1), (.int i2), (.int i3), (.int i4), (.int i5)] s = true := hsets _ (List.mem_of_getElem? (i := 2) rfl)
  have hCH : CHv s EL s.vm s.heap := CHv.start (hEL hw) (fun q hq => hh q (own_ELsub q hq)) hcw (w_23 hw) (w_6 hw)
  obtain ⟨n, o, r1, r2, r3, _, L, rfl, ⟨⟨-, w, rfl, rfl, -⟩, N⟩, -, hq⟩ := own_law l s _ hw G s.heap.size s.heap (Old.start s) i0 i1 i2 i3 i4 i5 p e ha hc hk s m _ below hf ((Spec.applies_iff_loose hf).mp happ).1 ⟨rfl, State.Warmed39.refl s, rfl, hCH, fun _ q => nomatch q⟩ trivial
  exact ⟨n, _, r1, r2, r3, hpost _ _ _ _ _ _ ⟨Cond.after_iff.mpr rfl, Cond.after_iff.mpr (eq_i res_at (Term.int_eval (1)) rfl), trivial⟩ ⟨hq.1, hq.2.1, hq.2.2.1, (hq.2.2.2.sift fun y hy => Or.inr (N y hy)).mono (by decide) (by decide)⟩⟩
theorem main_1_1 : Claimed_1_1 := comes_1 fun _ _ _ _ _ _ h hF => ⟨h.1, hF⟩
theorem main_1_2 : Claimed_1_2 := comes_1 fun _ _ _ _ _ _ h hF => ⟨h.2.1, hF⟩
end OwnProof
end Jvm.Pilot.@@N@@
namespace Jvm.Pilot.@@N@@
open Jvm Jvm.ClassFile Sem Op Lib Jvm.Free Jvm.Stand Jvm.Pilot.@@N@@.Jvm.D
/-! MADE BY PROGRAM (witnessworld.py) out of the Statement's table words and the real class files: 25 classes; the members and pool entries that the words name. The judged class is class 1, her method 2. -/
namespace start1
open Jvm.ClassFile
def u (s : String) : CpInfo := .utf8 (stringToUtf16 s)
/-- a pool by its gaps: so many unusable entries, then the entry; so many at the end -/
def gap : Nat → List CpInfo → List CpInfo
  | 0, r => r
  | n + 1, r => .unusable :: gap n r
def poolList (es : List (Nat × CpInfo)) (last : Nat) : List CpInfo := es.foldr (fun e r => gap e.1 (e.2 :: r)) (gap last [])
def pool (es : List (Nat × CpInfo)) (last : Nat) : Array CpInfo := ⟨poolList es last⟩
def fileOf (pool : Array CpInfo) (this : Nat) (attrs : Array Attribute := #[]) (ms : Array MethodInfo := #[]) (fl : Nat := 33) (sup : Nat := 0) (ifs : Array Nat := #[]) (fds : Array FieldInfo := #[]) : ClassFile where
  minorVersion := 0
  majorVersion := 65
  constantPool := pool
  accessFlags := fl
  thisClass := this
  superClass := sup
  interfaces := ifs
  fields := fds
  methods := ms
  attributes := attrs
def plain (name : String) (sup : Option ClassId) : Class where
  name := name
  kind := .ordinary
  loader := none
  accessFlags := 33
  super := sup
  interfaces := #[]
  cf := none
  fields := #[]
  methods := #[]
  instanceTypes := #[]
  staticTypes := #[]
  resolved := #[]
  callSites := []
  init := .initialized
  statics := none
  mirror := none

def pool0 : Array CpInfo := pool [(5, u "<init>"), (0, u "()V"), (1, .class_ 10), (1, u "java/lang/Object")] 113

def k0c0 : Code := { maxStack := 0, maxLocals := 1, code := object_method_1_code, exceptionTable := #[], attributes := #[] }
def k0m0 : Method := { name := "<init>", desc := "()V", sig := { parameters := [], returnType := none }, accessFlags := 1, code := some k0c0 }
/-- java/lang/Object -/
def k0 : Class := { plain "java/lang/Object" none with
  accessFlags := 33
  interfaces := #[]
  cf := some (fileOf pool0 8 #[] #[{ accessFlags := 1, nameIndex := 5, descriptorIndex := 6, attributes := #[] }] 33 0 #[] #[])
  fields := #[]
  methods := #[k0m0]
  instanceTypes := #[]
  staticTypes := #[]
  resolved := Array.replicate 124 none
  statics := none }

def pool1 : Array CpInfo := pool [(2, .class_ 4), (1, u "java/lang/Object"), (0, u "<init>"), (0, u "()V"), (0, .methodref 8 9), (0, .class_ 10), (0, .nameAndType 11 12), (0, u "com/example/crossgate/crossgate/AgentTokenHandleInPinLaw"), (0, u "pick"), (0, u "(I)[C"), (0, .class_ 14), (0, u "java/lang/String"), (0, .methodref 13 16), (0, .nameAndType 5 17), (0, u "([C)V"), (0, .methodref 19 20), (0, .class_ 21), (0, .nameAndType 22 23), (0, u "com/example/crossgate/crossgate/AgentToken"), (0, u "handleIn"), (0, u "(Ljava/lang/String;)Ljava/util/Optional;"), (0, .methodref 25 26), (0, .class_ 27), (0, .nameAndType 28 29), (0, u "java/util/Optional"), (0, u "isPresent"), (0, u "()Z"), (0, .methodref 25 31), (0, .nameAndType 32 33), (0, u "get"), (0, u "()Ljava/lang/Object;"), (0, .methodref 13 35), (0, .nameAndType 36 37), (0, u "equals"), (0, u "(Ljava/lang/Object;)Z"), (3, u "law"), (0, u "(IIIIII)Z")] 4

def k1m0 : Method := { name := "<init>", desc := "()V", sig := { parameters := [], returnType := none }, accessFlags := 2, code := none }
def k1c1 : Code := { maxStack := 2, maxLocals := 1, code := method_2_code, exceptionTable := #[], attributes := #[] }
def k1m1 : Method := { name := "pick", desc := "(I)[C", sig := { parameters := [.int], returnType := some (.array .char) }, accessFlags := 10, code := some k1c1 }
def k1c2 : Code := { maxStack := 4, maxLocals := 14, code := code, exceptionTable := #[], attributes := #[] }
def k1m2 : Method := { name := "law", desc := "(IIIIII)Z", sig := { parameters := [.int, .int, .int, .int, .int, .int], returnType := some .boolean }, accessFlags := 9, code := some k1c2 }
/-- com/example/crossgate/crossgate/AgentTokenHandleInPinLaw -/
def k1 : Class := { plain "com/example/crossgate/crossgate/AgentTokenHandleInPinLaw" (some 0) with
  accessFlags := 49
  interfaces := #[]
  cf := some (fileOf pool1 8 #[] #[{ accessFlags := 2, nameIndex := 5, descriptorIndex := 6, attributes := #[] }, { accessFlags := 10, nameIndex := 11, descriptorIndex := 12, attributes := #[] }, { accessFlags := 9, nameIndex := 41, descriptorIndex := 42, attributes := #[] }] 49 2 #[] #[])
  fields := #[]
  methods := #[k1m0, k1m1, k1m2]
  instanceTypes := #[]
  staticTypes := #[]
  resolved := Array.replicate 47 none
  statics := none }

def pool2 : Array CpInfo := pool [(1, .class_ 2), (0, u "java/io/Serializable"), (0, .class_ 4), (0, u "java/lang/Object")] 2

/-- java/io/Serializable -/
def k2 : Class := { plain "java/io/Serializable" (some 0) with
  accessFlags := 1537
  interfaces := #[]
  cf := some (fileOf pool2 1 #[] #[] 1537 3 #[] #[])
  fields := #[]
  methods := #[]
  instanceTypes := #[]
  staticTypes := #[]
  resolved := Array.replicate 7 none
  statics := none }

def pool3 : Array CpInfo := pool [(1, .class_ 2), (0, u "java/lang/Comparable"), (0, .class_ 4), (0, u "java/lang/Object")] 7

/-- java/lang/Comparable -/
def k3 : Class := { plain "java/lang/Comparable" (some 0) with
  accessFlags := 1537
  interfaces := #[]
  cf := some (fileOf pool3 1 #[] #[] 1537 3 #[] #[])
  fields := #[]
  methods := #[]
  instanceTypes := #[]
  staticTypes := #[]
  resolved := Array.replicate 12 none
  statics := none }

def pool4 : Array CpInfo := pool [(2, .class_ 4), (1, u "java/lang/CharSequence"), (42, .class_ 48), (0, u "java/lang/CharSequence$1CodePointIterator"), (10, .class_ 60), (0, u "java/lang/CharSequence$1CharIterator"), (5, .class_ 67), (0, u "java/lang/Object")] 63

/-- java/lang/CharSequence -/
def k4 : Class := { plain "java/lang/CharSequence" (some 0) with
  accessFlags := 1537
  interfaces := #[]
  cf := some (fileOf pool4 2 #[.nestMembers #[47, 59]] #[] 1537 66 #[] #[])
  fields := #[]
  methods := #[]
  instanceTypes := #[]
  staticTypes := #[]
  resolved := Array.replicate 131 none
  statics := none }

def pool5 : Array CpInfo := pool [(1, .class_ 2), (0, u "java/lang/constant/Constable"), (0, .class_ 4), (0, u "java/lang/Object")] 6

/-- java/lang/constant/Constable -/
def k5 : Class := { plain "java/lang/constant/Constable" (some 0) with
  accessFlags := 1537
  interfaces := #[]
  cf := some (fileOf pool5 1 #[] #[] 1537 3 #[] #[])
  fields := #[]
  methods := #[]
  instanceTypes := #[]
  staticTypes := #[]
  resolved := Array.replicate 11 none
  statics := none }

def pool6 : Array CpInfo := pool [(1, .class_ 2), (0, u "java/lang/constant/ConstantDesc"), (0, .class_ 4), (0, u "java/lang/Object")] 32

/-- java/lang/constant/ConstantDesc -/
def k6 : Class := { plain "java/lang/constant/ConstantDesc" (some 0) with
  accessFlags := 1537
  interfaces := #[]
  cf := some (fileOf pool6 1 #[] #[] 1537 3 #[] #[])
  fields := #[]
  methods := #[]
  instanceTypes := #[]
  staticTypes := #[]
  resolved := Array.replicate 37 none
  statics := none }

def pool7 : Array CpInfo := pool [(1, .methodref 2 3), (0, .class_ 4), (0, .nameAndType 5 6), (0, u "java/lang/Object"), (0, u "<init>"), (0, u "()V"), (0, .string 8), (0, u ""), (0, .fieldref 10 11), (0, .class_ 12), (0, .nameAndType 13 14), (0, u "java/lang/String"), (0, u "value"), (0, u "[B"), (0, .fieldref 10 16), (0, .nameAndType 17 18), (0, u "coder"), (0, u "B"), (2, u "hash"), (0, u "I"), (2, u "hashIsZero"), (0, u "Z"), (0, .methodref 10 28), (0, .nameAndType 5 29), (0, u "([CIILjava/lang/Void;)V"), (6, u "checkBoundsOffCount"), (0, u "(III)I"), (0, .fieldref 10 39), (0, .nameAndType 40 26), (0, u "COMPACT_STRINGS"), (1, .class_ 44), (1, u "java/lang/StringUTF16"), (0, u "compress"), (1, .methodref 42 48), (0, .nameAndType 49 50), (0, u "coderFromArrayLen"), (0, u "([BI)B"), (56, .class_ 109), (1, u "java/lang/StringLatin1"), (32, u "()Z"), (34, .methodref 42 178), (0, .nameAndType 45 179), (0, u "([CII)[B"), (31, u "([BB)V"), (122, u "()I"), (0, .methodref 10 336), (0, .nameAndType 17 337), (0, u "()B"), (25, u "([BI)C"), (27, u "(II)V"), (35, u "(I)C"), (64, .methodref 10 493), (0, .nameAndType 494 142), (0, u "isLatin1"), (0, .methodref 107 496), (0, .nameAndType 497 363), (0, u "charAt"), (0, .methodref 42 496), (2, u "checkIndex"), (3, .methodref 10 506), (0, .nameAndType 507 334), (0, u "length"), (5, u "checkFromToIndex"), (7, .methodref 10 522), (0, .nameAndType 523 524), (0, u "checkBoundsBeginEnd"), (0, u "(III)V"), (16, .methodref 107 542), (0, .nameAndType 543 544), (0, u "equals"), (0, u "([B[B)Z"), (28, u "(Ljava/lang/Object;)Z"), (1, .class_ 576), (0, u "java/lang/CharSequence"), (22, u "CASE_INSENSITIVE_ORDER"), (0, u "Ljava/util/Comparator;"), (82, u "substring"), (0, u "(II)Ljava/lang/String;"), (0, .methodref 107 686), (0, .nameAndType 687 688), (0, u "newString"), (0, u "([BII)Ljava/lang/String;"), (0, .methodref 42 686), (320, u "([C)V"), (42, .fieldref 1054 1055), (0, .class_ 1056), (0, .nameAndType 1057 1058), (0, u "jdk/internal/util/Preconditions"), (0, u "SIOOBE_FORMATTER"), (0, u "Ljava/util/function/BiFunction;"), (0, .methodref 1054 1060), (0, .nameAndType 501 1061), (0, u "(IILjava/util/function/BiFunction;)I"), (0, .methodref 1054 1063), (0, .nameAndType 513 1064), (0, u "(IIILjava/util/function/BiFunction;)I"), (0, .methodref 1054 1066), (0, .nameAndType 1067 1064), (0, u "checkFromIndexSize"), (33, u "serialPersistentFields"), (0, u "[Ljava/io/ObjectStreamField;"), (0, .class_ 1104), (0, u "java/lang/String$CaseInsensitiveComparator"), (1, .class_ 1107), (0, u "java/io/Serializable"), (0, .class_ 1109), (0, u "java/lang/Comparable"), (0, .class_ 1111), (0, u "java/lang/constant/Constable"), (0, .class_ 1113), (0, u "java/lang/constant/ConstantDesc"), (2, u "serialVersionUID"), (0, u "J"), (3, u "REPL"), (0, u "C"), (2, u "LATIN1"), (1, u "UTF16")] 323

def k7m0 : Method := { name := "<init>", desc := "()V", sig := { parameters := [], returnType := none }, accessFlags := 1, code := none }
def k7c1 : Code := { maxStack := 5, maxLocals := 2, code := jdk_42_method_3_code, exceptionTable := #[], attributes := #[] }
def k7m1 : Method := { name := "<init>", desc := "([C)V", sig := { parameters := [(.array .char)], returnType := none }, accessFlags := 1, code := some k7c1 }
def k7c2 : Code := { maxStack := 2, maxLocals := 1, code := jdk_42_method_54_code, exceptionTable := #[], attributes := #[] }
def k7m2 : Method := { name := "length", desc := "()I", sig := { parameters := [], returnType := some .int }, accessFlags := 1, code := some k7c2 }
def k7c3 : Code := { maxStack := 2, maxLocals := 2, code := jdk_42_method_56_code, exceptionTable := #[], attributes := #[] }
def k7m3 : Method := { name := "charAt", desc := "(I)C", sig := { parameters := [.int], returnType := some .char }, accessFlags := 1, code := some k7c3 }
def k7c4 : Code := { maxStack := 2, maxLocals := 3, code := jdk_42_method_66_code, exceptionTable := #[], attributes := #[] }
def k7m4 : Method := { name := "equals", desc := "(Ljava/lang/Object;)Z", sig := { parameters := [(.object "java/lang/Object")], returnType := some .boolean }, accessFlags := 1, code := some k7c4 }
def k7c5 : Code := { maxStack := 3, maxLocals := 5, code := jdk_42_method_92_code, exceptionTable := #[], attributes := #[] }
def k7m5 : Method := { name := "substring", desc := "(II)Ljava/lang/String;", sig := { parameters := [.int, .int], returnType := some (.object "java/lang/String") }, accessFlags := 1, code := some k7c5 }
def k7c6 : Code := { maxStack := 4, maxLocals := 6, code := jdk_42_method_149_code, exceptionTable := #[], attributes := #[] }
def k7m6 : Method := { name := "<init>", desc := "([CIILjava/lang/Void;)V", sig := { parameters := [(.array .char), .int, .int, (.object "java/lang/Void")], returnType := none }, accessFlags := 2, code := some k7c6 }
def k7c7 : Code := { maxStack := 2, maxLocals := 3, code := jdk_42_method_151_code, exceptionTable := #[], attributes := #[] }
def k7m7 : Method := { name := "<init>", desc := "([BB)V", sig := { parameters := [(.array .byte), .byte], returnType := none }, accessFlags := 0, code := some k7c7 }
def k7c8 : Code := { maxStack := 1, maxLocals := 1, code := jdk_42_method_152_code, exceptionTable := #[], attributes := #[] }
def k7m8 : Method := { name := "coder", desc := "()B", sig := { parameters := [], returnType := some .byte }, accessFlags := 0, code := some k7c8 }
def k7c9 : Code := { maxStack := 1, maxLocals := 1, code := jdk_42_method_154_code, exceptionTable := #[], attributes := #[] }
def k7m9 : Method := { name := "isLatin1", desc := "()Z", sig := { parameters := [], returnType := some .boolean }, accessFlags := 0, code := some k7c9 }
def k7c10 : Code := { maxStack := 3, maxLocals := 2, code := jdk_42_method_155_code, exceptionTable := #[], attributes := #[] }
def k7m10 : Method := { name := "checkIndex", desc := "(II)V", sig := { parameters := [.int, .int], returnType := none }, accessFlags := 8, code := some k7c10 }
def k7c11 : Code := { maxStack := 4, maxLocals := 3, code := jdk_42_method_157_code, exceptionTable := #[], attributes := #[] }
def k7m11 : Method := { name := "checkBoundsOffCount", desc := "(III)I", sig := { parameters := [.int, .int, .int], returnType := some .int }, accessFlags := 8, code := some k7c11 }
def k7c12 : Code := { maxStack := 4, maxLocals := 3, code := jdk_42_method_158_code, exceptionTable := #[], attributes := #[] }
def k7m12 : Method := { name := "checkBoundsBeginEnd", desc := "(III)V", sig := { parameters := [.int, .int, .int], returnType := none }, accessFlags := 8, code := some k7c12 }
/-- java/lang/String -/
def k7 : Class := { plain "java/lang/String" (some 0) with
  accessFlags := 49
  interfaces := #[2, 3, 4, 5, 6]
  cf := some (fileOf pool7 10 #[.nestMembers #[1103]] #[{ accessFlags := 1, nameIndex := 5, descriptorIndex := 6, attributes := #[] }, { accessFlags := 1, nameIndex := 5, descriptorIndex := 1010, attributes := #[] }, { accessFlags := 1, nameIndex := 507, descriptorIndex := 334, attributes := #[] }, { accessFlags := 1, nameIndex := 497, descriptorIndex := 427, attributes := #[] }, { accessFlags := 1, nameIndex := 543, descriptorIndex := 573, attributes := #[] }, { accessFlags := 1, nameIndex := 683, descriptorIndex := 684, attributes := #[] }, { accessFlags := 2, nameIndex := 5, descriptorIndex := 29, attributes := #[] }, { accessFlags := 0, nameIndex := 5, descriptorIndex := 211, attributes := #[] }, { accessFlags := 0, nameIndex := 17, descriptorIndex := 337, attributes := #[] }, { accessFlags := 0, nameIndex := 494, descriptorIndex := 142, attributes := #[] }, { accessFlags := 8, nameIndex := 501, descriptorIndex := 391, attributes := #[] }, { accessFlags := 8, nameIndex := 36, descriptorIndex := 37, attributes := #[] }, { accessFlags := 8, nameIndex := 523, descriptorIndex := 524, attributes := #[] }] 49 2 #[1106, 1108, 575, 1110, 1112] #[{ accessFlags := 18, nameIndex := 13, descriptorIndex := 14, attributes := #[] }, { accessFlags := 18, nameIndex := 17, descriptorIndex := 18, attributes := #[] }, { accessFlags := 2, nameIndex := 21, descriptorIndex := 22, attributes := #[] }, { accessFlags := 2, nameIndex := 25, descriptorIndex := 26, attributes := #[] }, { accessFlags := 26, nameIndex := 1116, descriptorIndex := 1117, attributes := #[] }, { accessFlags := 24, nameIndex := 40, descriptorIndex := 26, attributes := #[] }, { accessFlags := 26, nameIndex := 1101, descriptorIndex := 1102, attributes := #[] }, { accessFlags := 26, nameIndex := 1121, descriptorIndex := 1122, attributes := #[] }, { accessFlags := 25, nameIndex := 599, descriptorIndex := 600, attributes := #[] }, { accessFlags := 24, nameIndex := 1125, descriptorIndex := 18, attributes := #[] }, { accessFlags := 24, nameIndex := 1127, descriptorIndex := 18, attributes := #[] }])
  fields := #[{ name := "value", type := (.array .byte), accessFlags := 18, slot := 0, constantValue := 0 }, { name := "coder", type := .byte, accessFlags := 18, slot := 1, constantValue := 0 }, { name := "hash", type := .int, accessFlags := 2, slot := 2, constantValue := 0 }, { name := "hashIsZero", type := .boolean, accessFlags := 2, slot := 3, constantValue := 0 }, { name := "serialVersionUID", type := .long, accessFlags := 26, slot := 0, constantValue := 0 }, { name := "COMPACT_STRINGS", type := .boolean, accessFlags := 24, slot := 1, constantValue := 0 }, { name := "serialPersistentFields", type := (.array (.object "java/io/ObjectStreamField")), accessFlags := 26, slot := 2, constantValue := 0 }, { name := "REPL", type := .char, accessFlags := 26, slot := 3, constantValue := 0 }, { name := "CASE_INSENSITIVE_ORDER", type := (.object "java/util/Comparator"), accessFlags := 25, slot := 4, constantValue := 0 }, { name := "LATIN1", type := .byte, accessFlags := 24, slot := 5, constantValue := 0 }, { name := "UTF16", type := .byte, accessFlags := 24, slot := 6, constantValue := 0 }]
  methods := #[k7m0, k7m1, k7m2, k7m3, k7m4, k7m5, k7m6, k7m7, k7m8, k7m9, k7m10, k7m11, k7m12]
  instanceTypes := #[(.array .byte), .byte, .int, .boolean]
  staticTypes := #[.long, .boolean, (.array (.object "java/io/ObjectStreamField")), .char, (.object "java/util/Comparator"), .byte, .byte]
  resolved := Array.replicate 1451 none
  statics := some 0 }

def pool8 : Array CpInfo := pool [(3, .class_ 4), (0, u "java/lang/String"), (1, .class_ 8), (1, u "java/lang/Object"), (0, u "<init>"), (0, u "()V"), (0, .methodref 12 13), (0, .class_ 14), (0, .nameAndType 15 16), (0, u "java/lang/StringUTF16"), (0, u "newBytesLength"), (0, u "(I)I"), (3, .integer 1073741823), (23, .fieldref 12 45), (0, .nameAndType 46 47), (0, u "$assertionsDisabled"), (0, u "Z"), (0, .methodref 12 49), (0, .nameAndType 50 51), (0, u "length"), (0, u "([B)I"), (7, .fieldref 12 60), (0, .nameAndType 61 62), (0, u "HI_BYTE_SHIFT"), (0, u "I"), (0, .fieldref 12 64), (0, .nameAndType 65 62), (0, u "LO_BYTE_SHIFT"), (1, .methodref 12 68), (0, .nameAndType 69 70), (0, u "checkIndex"), (0, u "(I[B)V"), (0, .methodref 12 72), (0, .nameAndType 73 74), (0, u "getChar"), (0, u "([BI)C"), (24, u "(II[B)V"), (7, .methodref 12 108), (0, .nameAndType 109 110), (0, u "newBytesFor"), (0, u "(I)[B"), (0, .methodref 12 112), (0, .nameAndType 113 114), (0, u "putChar"), (0, u "([BII)V"), (0, .methodref 12 116), (0, .nameAndType 117 118), (0, u "compress"), (0, u "([CI[BII)I"), (0, .methodref 12 120), (0, .nameAndType 121 122), (0, u "toBytes"), (0, u "([CII)[B"), (0, .methodref 12 124), (0, .nameAndType 117 125), (0, u "([BI[BII)I"), (0, .methodref 127 128), (0, .class_ 129), (0, .nameAndType 130 131), (0, u "java/util/Arrays"), (0, u "copyOfRange"), (0, u "([BII)[B"), (41, .methodref 12 174), (0, .nameAndType 175 99), (0, u "checkBoundsOffCount"), (75, .fieldref 3 252), (0, .nameAndType 253 47), (0, u "COMPACT_STRINGS"), (3, .methodref 12 258), (0, .nameAndType 117 131), (0, .methodref 12 260), (0, .nameAndType 261 262), (0, u "coderFromArrayLen"), (0, u "([BI)B"), (0, .methodref 3 264), (0, .nameAndType 9 265), (0, u "([BB)V"), (15, u "(III)I"), (45, u "newString"), (0, u "([BII)Ljava/lang/String;"), (40, .class_ 371), (1, u "java/lang/StringUTF16$LinesSpliterator"), (20, u "charAt"), (21, .methodref 3 415), (0, .nameAndType 69 416), (0, u "(II)V"), (2, .methodref 3 420), (0, .nameAndType 175 281), (9, u "MAX_LENGTH"), (196, .class_ 628), (0, u "java/lang/StringUTF16$CodePointsSpliterator"), (0, .class_ 630), (0, u "java/lang/StringUTF16$CharsSpliterator")] 4

def k8m0 : Method := { name := "<init>", desc := "()V", sig := { parameters := [], returnType := none }, accessFlags := 0, code := none }
def k8c1 : Code := { maxStack := 1, maxLocals := 1, code := jdk_52_method_2_code, exceptionTable := #[], attributes := #[] }
def k8m1 : Method := { name := "newBytesFor", desc := "(I)[B", sig := { parameters := [.int], returnType := some (.array .byte) }, accessFlags := 9, code := some k8c1 }
def k8c2 : Code := { maxStack := 4, maxLocals := 1, code := jdk_52_method_3_code, exceptionTable := #[], attributes := #[] }
def k8m2 : Method := { name := "newBytesLength", desc := "(I)I", sig := { parameters := [.int], returnType := some .int }, accessFlags := 9, code := some k8c2 }
def k8c3 : Code := { maxStack := 4, maxLocals := 3, code := jdk_52_method_4_code, exceptionTable := #[], attributes := #[] }
def k8m3 : Method := { name := "putChar", desc := "([BII)V", sig := { parameters := [(.array .byte), .int, .int], returnType := none }, accessFlags := 8, code := some k8c3 }
def k8c4 : Code := { maxStack := 3, maxLocals := 2, code := jdk_52_method_5_code, exceptionTable := #[], attributes := #[] }
def k8m4 : Method := { name := "getChar", desc := "([BI)C", sig := { parameters := [(.array .byte), .int], returnType := some .char }, accessFlags := 8, code := some k8c4 }
def k8c5 : Code := { maxStack := 2, maxLocals := 1, code := jdk_52_method_6_code, exceptionTable := #[], attributes := #[] }
def k8m5 : Method := { name := "length", desc := "([B)I", sig := { parameters := [(.array .byte)], returnType := some .int }, accessFlags := 9, code := some k8c5 }
def k8c6 : Code := { maxStack := 4, maxLocals := 5, code := jdk_52_method_14_code, exceptionTable := #[], attributes := #[] }
def k8m6 : Method := { name := "toBytes", desc := "([CII)[B", sig := { parameters := [(.array .char), .int, .int], returnType := some (.array .byte) }, accessFlags := 9, code := some k8c6 }
def k8c7 : Code := { maxStack := 2, maxLocals := 2, code := jdk_52_method_15_code, exceptionTable := #[], attributes := #[] }
def k8m7 : Method := { name := "coderFromArrayLen", desc := "([BI)B", sig := { parameters := [(.array .byte), .int], returnType := some .byte }, accessFlags := 8, code := some k8c7 }
def k8c8 : Code := { maxStack := 5, maxLocals := 6, code := jdk_52_method_16_code, exceptionTable := #[], attributes := #[] }
def k8m8 : Method := { name := "compress", desc := "([CII)[B", sig := { parameters := [(.array .char), .int, .int], returnType := some (.array .byte) }, accessFlags := 9, code := some k8c8 }
def k8c9 : Code := { maxStack := 5, maxLocals := 6, code := jdk_52_method_17_code, exceptionTable := #[], attributes := #[] }
def k8m9 : Method := { name := "compress", desc := "([BII)[B", sig := { parameters := [(.array .byte), .int, .int], returnType := some (.array .byte) }, accessFlags := 9, code := some k8c9 }
def k8c10 : Code := { maxStack := 3, maxLocals := 7, code := jdk_52_method_21_code, exceptionTable := #[], attributes := #[] }
def k8m10 : Method := { name := "compress", desc := "([CI[BII)I", sig := { parameters := [(.array .char), .int, (.array .byte), .int, .int], returnType := some .int }, accessFlags := 9, code := some k8c10 }
def k8c11 : Code := { maxStack := 3, maxLocals := 7, code := jdk_52_method_22_code, exceptionTable := #[], attributes := #[] }
def k8m11 : Method := { name := "compress", desc := "([BI[BII)I", sig := { parameters := [(.array .byte), .int, (.array .byte), .int, .int], returnType := some .int }, accessFlags := 9, code := some k8c11 }
def k8c12 : Code := { maxStack := 6, maxLocals := 5, code := jdk_52_method_69_code, exceptionTable := #[], attributes := #[] }
def k8m12 : Method := { name := "newString", desc := "([BII)Ljava/lang/String;", sig := { parameters := [(.array .byte), .int, .int], returnType := some (.object "java/lang/String") }, accessFlags := 9, code := some k8c12 }
def k8c13 : Code := { maxStack := 2, maxLocals := 2, code := jdk_52_method_83_code, exceptionTable := #[], attributes := #[] }
def k8m13 : Method := { name := "charAt", desc := "([BI)C", sig := { parameters := [(.array .byte), .int], returnType := some .char }, accessFlags := 9, code := some k8c13 }
def k8c14 : Code := { maxStack := 2, maxLocals := 2, code := jdk_52_method_91_code, exceptionTable := #[], attributes := #[] }
def k8m14 : Method := { name := "checkIndex", desc := "(I[B)V", sig := { parameters := [.int, (.array .byte)], returnType := none }, accessFlags := 9, code := some k8c14 }
def k8c15 : Code := { maxStack := 3, maxLocals := 3, code := jdk_52_method_94_code, exceptionTable := #[], attributes := #[] }
def k8m15 : Method := { name := "checkBoundsOffCount", desc := "(II[B)V", sig := { parameters := [.int, .int, (.array .byte)], returnType := none }, accessFlags := 9, code := some k8c15 }
/-- java/lang/StringUTF16 -/
def k8 : Class := { plain "java/lang/StringUTF16" (some 0) with
  accessFlags := 48
  interfaces := #[]
  cf := some (fileOf pool8 12 #[.nestMembers #[627, 629, 369]] #[{ accessFlags := 0, nameIndex := 9, descriptorIndex := 10, attributes := #[] }, { accessFlags := 9, nameIndex := 109, descriptorIndex := 110, attributes := #[] }, { accessFlags := 9, nameIndex := 15, descriptorIndex := 16, attributes := #[] }, { accessFlags := 8, nameIndex := 113, descriptorIndex := 114, attributes := #[] }, { accessFlags := 8, nameIndex := 73, descriptorIndex := 74, attributes := #[] }, { accessFlags := 9, nameIndex := 50, descriptorIndex := 51, attributes := #[] }, { accessFlags := 9, nameIndex := 121, descriptorIndex := 122, attributes := #[] }, { accessFlags := 8, nameIndex := 261, descriptorIndex := 262, attributes := #[] }, { accessFlags := 9, nameIndex := 117, descriptorIndex := 122, attributes := #[] }, { accessFlags := 9, nameIndex := 117, descriptorIndex := 131, attributes := #[] }, { accessFlags := 9, nameIndex := 117, descriptorIndex := 118, attributes := #[] }, { accessFlags := 9, nameIndex := 117, descriptorIndex := 125, attributes := #[] }, { accessFlags := 9, nameIndex := 327, descriptorIndex := 328, attributes := #[] }, { accessFlags := 9, nameIndex := 392, descriptorIndex := 74, attributes := #[] }, { accessFlags := 9, nameIndex := 69, descriptorIndex := 70, attributes := #[] }, { accessFlags := 9, nameIndex := 175, descriptorIndex := 99, attributes := #[] }] 48 6 #[] #[{ accessFlags := 26, nameIndex := 61, descriptorIndex := 62, attributes := #[] }, { accessFlags := 26, nameIndex := 65, descriptorIndex := 62, attributes := #[] }, { accessFlags := 24, nameIndex := 430, descriptorIndex := 62, attributes := #[] }, { accessFlags := 4120, nameIndex := 46, descriptorIndex := 47, attributes := #[] }])
  fields := #[{ name := "HI_BYTE_SHIFT", type := .int, accessFlags := 26, slot := 0, constantValue := 0 }, { name := "LO_BYTE_SHIFT", type := .int, accessFlags := 26, slot := 1, constantValue := 0 }, { name := "MAX_LENGTH", type := .int, accessFlags := 24, slot := 2, constantValue := 0 }, { name := "$assertionsDisabled", type := .boolean, accessFlags := 4120, slot := 3, constantValue := 0 }]
  methods := #[k8m0, k8m1, k8m2, k8m3, k8m4, k8m5, k8m6, k8m7, k8m8, k8m9, k8m10, k8m11, k8m12, k8m13, k8m14, k8m15]
  instanceTypes := #[]
  staticTypes := #[.int, .int, .int, .boolean]
  resolved := Array.replicate 635 none
  statics := some 1 }

def pool9 : Array CpInfo := pool [(2, .class_ 4), (1, u "java/lang/Object"), (0, u "<init>"), (0, u "()V"), (1, .class_ 10), (1, u "com/example/crossgate/crossgate/AgentToken"), (8, u "ENCODER"), (0, u "Ljava/util/Base64$Encoder;"), (24, .methodref 46 47), (0, .class_ 48), (0, .nameAndType 49 50), (0, u "java/lang/String"), (0, u "length"), (0, u "()I"), (0, .methodref 46 52), (0, .nameAndType 53 54), (0, u "charAt"), (0, u "(I)C"), (0, .methodref 56 57), (0, .class_ 58), (0, .nameAndType 59 60), (0, u "java/util/Optional"), (0, u "empty"), (0, u "()Ljava/util/Optional;"), (0, .methodref 46 62), (0, .nameAndType 63 64), (0, u "substring"), (0, u "(II)Ljava/lang/String;"), (0, .methodref 56 66), (0, .nameAndType 67 68), (0, u "of"), (0, u "(Ljava/lang/Object;)Ljava/util/Optional;"), (34, u "HANDLE"), (0, u "Ljava/lang/String;"), (1, u "SEAL"), (0, u "PART_LENGTH"), (0, u "I"), (5, u "handleIn"), (0, u "(Ljava/lang/String;)Ljava/util/Optional;")] 24

def k9m0 : Method := { name := "<init>", desc := "()V", sig := { parameters := [], returnType := none }, accessFlags := 2, code := none }
def k9c1 : Code := { maxStack := 3, maxLocals := 1, code := prog_11_method_5_code, exceptionTable := #[], attributes := #[] }
def k9m1 : Method := { name := "handleIn", desc := "(Ljava/lang/String;)Ljava/util/Optional;", sig := { parameters := [(.object "java/lang/String")], returnType := some (.object "java/util/Optional") }, accessFlags := 8, code := some k9c1 }
/-- com/example/crossgate/crossgate/AgentToken -/
def k9 : Class := { plain "com/example/crossgate/crossgate/AgentToken" (some 0) with
  accessFlags := 48
  interfaces := #[]
  cf := some (fileOf pool9 8 #[] #[{ accessFlags := 2, nameIndex := 5, descriptorIndex := 6, attributes := #[] }, { accessFlags := 8, nameIndex := 114, descriptorIndex := 115, attributes := #[] }] 48 2 #[] #[{ accessFlags := 26, nameIndex := 103, descriptorIndex := 104, attributes := #[] }, { accessFlags := 26, nameIndex := 106, descriptorIndex := 104, attributes := #[] }, { accessFlags := 26, nameIndex := 107, descriptorIndex := 108, attributes := #[] }, { accessFlags := 26, nameIndex := 19, descriptorIndex := 20, attributes := #[] }])
  fields := #[{ name := "HANDLE", type := (.object "java/lang/String"), accessFlags := 26, slot := 0, constantValue := 0 }, { name := "SEAL", type := (.object "java/lang/String"), accessFlags := 26, slot := 1, constantValue := 0 }, { name := "PART_LENGTH", type := .int, accessFlags := 26, slot := 2, constantValue := 0 }, { name := "ENCODER", type := (.object "java/util/Base64$Encoder"), accessFlags := 26, slot := 3, constantValue := 0 }]
  methods := #[k9m0, k9m1]
  instanceTypes := #[]
  staticTypes := #[(.object "java/lang/String"), (.object "java/lang/String"), .int, (.object "java/util/Base64$Encoder")]
  resolved := Array.replicate 140 none
  statics := none }

def pool10 : Array CpInfo := pool [(1, .class_ 2), (0, u "java/lang/String"), (1, .class_ 6), (1, u "java/lang/Object"), (0, u "<init>"), (0, u "()V"), (0, .methodref 1 10), (0, .nameAndType 11 12), (0, u "checkIndex"), (0, u "(II)V"), (1, .class_ 16), (1, u "java/lang/StringLatin1"), (36, u "([BI)C"), (58, .methodref 1 113), (0, .nameAndType 7 114), (0, u "([BB)V"), (6, u "$assertionsDisabled"), (0, u "Z"), (8, .class_ 133), (1, u "java/util/Arrays"), (62, u "newString"), (0, u "([BII)Ljava/lang/String;"), (23, .class_ 223), (1, u "java/lang/StringLatin1$LinesSpliterator"), (8, .methodref 131 233), (0, .nameAndType 234 235), (0, u "copyOfRange"), (0, u "([BII)[B"), (16, u "charAt"), (28, u "equals"), (0, u "([B[B)Z"), (107, .class_ 391), (0, u "java/lang/StringLatin1$CharsSpliterator")] 3

def k10m0 : Method := { name := "<init>", desc := "()V", sig := { parameters := [], returnType := none }, accessFlags := 0, code := none }
def k10c1 : Code := { maxStack := 2, maxLocals := 2, code := jdk_43_method_2_code, exceptionTable := #[], attributes := #[] }
def k10m1 : Method := { name := "charAt", desc := "([BI)C", sig := { parameters := [(.array .byte), .int], returnType := some .char }, accessFlags := 9, code := some k10c1 }
def k10c2 : Code := { maxStack := 3, maxLocals := 3, code := jdk_43_method_13_code, exceptionTable := #[], attributes := #[] }
def k10m2 : Method := { name := "equals", desc := "([B[B)Z", sig := { parameters := [(.array .byte), (.array .byte)], returnType := some .boolean }, accessFlags := 9, code := some k10c2 }
def k10c3 : Code := { maxStack := 6, maxLocals := 3, code := jdk_43_method_47_code, exceptionTable := #[], attributes := #[] }
def k10m3 : Method := { name := "newString", desc := "([BII)Ljava/lang/String;", sig := { parameters := [(.array .byte), .int, .int], returnType := some (.object "java/lang/String") }, accessFlags := 9, code := some k10c3 }
/-- java/lang/StringLatin1 -/
def k10 : Class := { plain "java/lang/StringLatin1" (some 0) with
  accessFlags := 48
  interfaces := #[]
  cf := some (fileOf pool10 14 #[.nestMembers #[390, 221]] #[{ accessFlags := 0, nameIndex := 7, descriptorIndex := 8, attributes := #[] }, { accessFlags := 9, nameIndex := 252, descriptorIndex := 53, attributes := #[] }, { accessFlags := 9, nameIndex := 281, descriptorIndex := 282, attributes := #[] }, { accessFlags := 9, nameIndex := 196, descriptorIndex := 197, attributes := #[] }] 48 4 #[] #[{ accessFlags := 4120, nameIndex := 121, descriptorIndex := 122, attributes := #[] }])
  fields := #[{ name := "$assertionsDisabled", type := .boolean, accessFlags := 4120, slot := 0, constantValue := 0 }]
  methods := #[k10m0, k10m1, k10m2, k10m3]
  instanceTypes := #[]
  staticTypes := #[.boolean]
  resolved := Array.replicate 395 none
  statics := none }

def pool11 : Array CpInfo := pool [(2, .class_ 4), (1, u "java/lang/Object"), (0, u "<init>"), (0, u "()V"), (17, .class_ 26), (1, u "jdk/internal/util/Preconditions"), (6, u "checkIndex"), (13, u "checkFromToIndex"), (1, u "checkFromIndexSize"), (5, .class_ 56), (0, u "jdk/internal/util/Preconditions$4"), (57, .class_ 115), (0, u "jdk/internal/util/Preconditions$1"), (7, u "SIOOBE_FORMATTER"), (0, u "Ljava/util/function/BiFunction;"), (0, .class_ 126), (0, u "jdk/internal/util/Preconditions$2"), (3, u "AIOOBE_FORMATTER"), (0, .class_ 132), (0, u "jdk/internal/util/Preconditions$3"), (3, u "IOOBE_FORMATTER"), (41, u "(IILjava/util/function/BiFunction;)I"), (4, u "(IIILjava/util/function/BiFunction;)I")] 10

def k11m0 : Method := { name := "<init>", desc := "()V", sig := { parameters := [], returnType := none }, accessFlags := 1, code := none }
def k11c1 : Code := { maxStack := 3, maxLocals := 3, code := jdk_41_method_11_code, exceptionTable := #[], attributes := #[] }
def k11m1 : Method := { name := "checkIndex", desc := "(IILjava/util/function/BiFunction;)I", sig := { parameters := [.int, .int, (.object "java/util/function/BiFunction")], returnType := some .int }, accessFlags := 9, code := some k11c1 }
def k11c2 : Code := { maxStack := 4, maxLocals := 4, code := jdk_41_method_12_code, exceptionTable := #[], attributes := #[] }
def k11m2 : Method := { name := "checkFromToIndex", desc := "(IIILjava/util/function/BiFunction;)I", sig := { parameters := [.int, .int, .int, (.object "java/util/function/BiFunction")], returnType := some .int }, accessFlags := 9, code := some k11c2 }
def k11c3 : Code := { maxStack := 4, maxLocals := 4, code := jdk_41_method_13_code, exceptionTable := #[], attributes := #[] }
def k11m3 : Method := { name := "checkFromIndexSize", desc := "(IIILjava/util/function/BiFunction;)I", sig := { parameters := [.int, .int, .int, (.object "java/util/function/BiFunction")], returnType := some .int }, accessFlags := 9, code := some k11c3 }
/-- jdk/internal/util/Preconditions -/
def k11 : Class := { plain "jdk/internal/util/Preconditions" (some 0) with
  accessFlags := 33
  interfaces := #[]
  cf := some (fileOf pool11 24 #[.nestMembers #[55, 131, 125, 114]] #[{ accessFlags := 1, nameIndex := 5, descriptorIndex := 6, attributes := #[] }, { accessFlags := 9, nameIndex := 33, descriptorIndex := 178, attributes := #[] }, { accessFlags := 9, nameIndex := 47, descriptorIndex := 183, attributes := #[] }, { accessFlags := 9, nameIndex := 49, descriptorIndex := 183, attributes := #[] }] 33 2 #[] #[{ accessFlags := 25, nameIndex := 123, descriptorIndex := 124, attributes := #[] }, { accessFlags := 25, nameIndex := 130, descriptorIndex := 124, attributes := #[] }, { accessFlags := 25, nameIndex := 136, descriptorIndex := 124, attributes := #[] }])
  fields := #[{ name := "SIOOBE_FORMATTER", type := (.object "java/util/function/BiFunction"), accessFlags := 25, slot := 0, constantValue := 0 }, { name := "AIOOBE_FORMATTER", type := (.object "java/util/function/BiFunction"), accessFlags := 25, slot := 1, constantValue := 0 }, { name := "IOOBE_FORMATTER", type := (.object "java/util/function/BiFunction"), accessFlags := 25, slot := 2, constantValue := 0 }]
  methods := #[k11m0, k11m1, k11m2, k11m3]
  instanceTypes := #[]
  staticTypes := #[(.object "java/util/function/BiFunction"), (.object "java/util/function/BiFunction"), (.object "java/util/function/BiFunction")]
  resolved := Array.replicate 194 none
  statics := some 2 }

def pool12 : Array CpInfo := pool [(1, .fieldref 2 3), (0, .class_ 4), (0, .nameAndType 5 6), (0, u "java/util/Optional"), (0, u "EMPTY"), (0, u "Ljava/util/Optional;"), (0, .methodref 8 9), (0, .class_ 10), (0, .nameAndType 11 12), (0, u "java/lang/Object"), (0, u "<init>"), (0, u "()V"), (0, .fieldref 2 14), (0, .nameAndType 15 16), (0, u "value"), (0, u "Ljava/lang/Object;"), (0, .methodref 18 19), (0, .class_ 20), (0, .nameAndType 21 22), (0, u "java/util/Objects"), (0, u "requireNonNull"), (0, u "(Ljava/lang/Object;)Ljava/lang/Object;"), (0, .methodref 2 24), (0, .nameAndType 11 25), (0, u "(Ljava/lang/Object;)V"), (20, u "()Z"), (8, u "empty"), (0, u "()Ljava/util/Optional;"), (8, u "(Ljava/lang/Object;)Ljava/util/Optional;"), (2, u "isPresent"), (4, u "get"), (0, u "()Ljava/lang/Object;"), (7, u "of")] 104

def k12c0 : Code := { maxStack := 1, maxLocals := 1, code := jdk_32_method_1_code, exceptionTable := #[], attributes := #[] }
def k12m0 : Method := { name := "empty", desc := "()Ljava/util/Optional;", sig := { parameters := [], returnType := some (.object "java/util/Optional") }, accessFlags := 9, code := some k12c0 }
def k12c1 : Code := { maxStack := 2, maxLocals := 2, code := jdk_32_method_2_code, exceptionTable := #[], attributes := #[] }
def k12m1 : Method := { name := "<init>", desc := "(Ljava/lang/Object;)V", sig := { parameters := [(.object "java/lang/Object")], returnType := none }, accessFlags := 2, code := some k12c1 }
def k12c2 : Code := { maxStack := 3, maxLocals := 1, code := jdk_32_method_3_code, exceptionTable := #[], attributes := #[] }
def k12m2 : Method := { name := "of", desc := "(Ljava/lang/Object;)Ljava/util/Optional;", sig := { parameters := [(.object "java/lang/Object")], returnType := some (.object "java/util/Optional") }, accessFlags := 9, code := some k12c2 }
def k12c3 : Code := { maxStack := 3, maxLocals := 1, code := jdk_32_method_5_code, exceptionTable := #[], attributes := #[] }
def k12m3 : Method := { name := "get", desc := "()Ljava/lang/Object;", sig := { parameters := [], returnType := some (.object "java/lang/Object") }, accessFlags := 1, code := some k12c3 }
def k12c4 : Code := { maxStack := 1, maxLocals := 1, code := jdk_32_method_6_code, exceptionTable := #[], attributes := #[] }
def k12m4 : Method := { name := "isPresent", desc := "()Z", sig := { parameters := [], returnType := some .boolean }, accessFlags := 1, code := some k12c4 }
/-- java/util/Optional -/
def k12 : Class := { plain "java/util/Optional" (some 0) with
  accessFlags := 49
  interfaces := #[]
  cf := some (fileOf pool12 2 #[] #[{ accessFlags := 9, nameIndex := 55, descriptorIndex := 56, attributes := #[] }, { accessFlags := 2, nameIndex := 11, descriptorIndex := 25, attributes := #[] }, { accessFlags := 9, nameIndex := 82, descriptorIndex := 65, attributes := #[] }, { accessFlags := 1, nameIndex := 73, descriptorIndex := 74, attributes := #[] }, { accessFlags := 1, nameIndex := 68, descriptorIndex := 46, attributes := #[] }] 49 8 #[] #[{ accessFlags := 26, nameIndex := 5, descriptorIndex := 6, attributes := #[] }, { accessFlags := 18, nameIndex := 15, descriptorIndex := 16, attributes := #[] }])
  fields := #[{ name := "EMPTY", type := (.object "java/util/Optional"), accessFlags := 26, slot := 0, constantValue := 0 }, { name := "value", type := (.object "java/lang/Object"), accessFlags := 18, slot := 0, constantValue := 0 }]
  methods := #[k12m0, k12m1, k12m2, k12m3, k12m4]
  instanceTypes := #[(.object "java/lang/Object")]
  staticTypes := #[(.object "java/util/Optional")]
  resolved := Array.replicate 187 none
  statics := some 3 }

def pool13 : Array CpInfo := pool [(2, .class_ 4), (1, u "java/lang/Object"), (0, u "<init>"), (0, u "()V"), (7, .class_ 16), (1, u "java/util/Arrays"), (57, .class_ 76), (1, u "java/util/Arrays$NaturalOrder"), (36, .class_ 115), (1, u "java/util/Arrays$LegacyMergeSort"), (1, u "Z"), (21, u "copyOfRange"), (10, .methodref 151 152), (0, .class_ 153), (0, .nameAndType 154 155), (0, u "java/lang/System"), (0, u "arraycopy"), (0, u "(Ljava/lang/Object;ILjava/lang/Object;II)V"), (148, .methodref 305 306), (0, .class_ 307), (0, .nameAndType 308 309), (0, u "java/lang/Math"), (0, u "min"), (0, u "(II)I"), (29, .methodref 14 340), (0, .nameAndType 341 342), (0, u "copyOfRangeByte"), (0, u "([BII)[B"), (0, .methodref 14 344), (0, .nameAndType 345 346), (0, u "checkLength"), (0, u "(II)V"), (28, .class_ 376), (0, u "java/util/Arrays$ArrayList"), (68, u "$assertionsDisabled"), (269, u "MIN_ARRAY_SORT_GRAN"), (0, u "I"), (2, u "INSERTIONSORT_THRESHOLD"), (255, .class_ 976), (0, u "java/util/Arrays$ArrayItr")] 52

def k13m0 : Method := { name := "<init>", desc := "()V", sig := { parameters := [], returnType := none }, accessFlags := 2, code := none }
def k13c1 : Code := { maxStack := 4, maxLocals := 2, code := jdk_65_method_131_code, exceptionTable := #[], attributes := #[] }
def k13m1 : Method := { name := "checkLength", desc := "(II)V", sig := { parameters := [.int, .int], returnType := none }, accessFlags := 10, code := some k13c1 }
def k13c2 : Code := { maxStack := 3, maxLocals := 3, code := jdk_65_method_132_code, exceptionTable := #[], attributes := #[] }
def k13m2 : Method := { name := "copyOfRange", desc := "([BII)[B", sig := { parameters := [(.array .byte), .int, .int], returnType := some (.array .byte) }, accessFlags := 9, code := some k13c2 }
def k13c3 : Code := { maxStack := 6, maxLocals := 5, code := jdk_65_method_133_code, exceptionTable := #[], attributes := #[] }
def k13m3 : Method := { name := "copyOfRangeByte", desc := "([BII)[B", sig := { parameters := [(.array .byte), .int, .int], returnType := some (.array .byte) }, accessFlags := 10, code := some k13c3 }
/-- java/util/Arrays -/
def k13 : Class := { plain "java/util/Arrays" (some 0) with
  accessFlags := 49
  interfaces := #[]
  cf := some (fileOf pool13 14 #[.nestMembers #[975, 375, 113, 74]] #[{ accessFlags := 2, nameIndex := 5, descriptorIndex := 6, attributes := #[] }, { accessFlags := 10, nameIndex := 345, descriptorIndex := 346, attributes := #[] }, { accessFlags := 9, nameIndex := 139, descriptorIndex := 342, attributes := #[] }, { accessFlags := 10, nameIndex := 341, descriptorIndex := 342, attributes := #[] }] 49 2 #[] #[{ accessFlags := 26, nameIndex := 715, descriptorIndex := 716, attributes := #[] }, { accessFlags := 26, nameIndex := 719, descriptorIndex := 716, attributes := #[] }, { accessFlags := 4120, nameIndex := 445, descriptorIndex := 117, attributes := #[] }])
  fields := #[{ name := "MIN_ARRAY_SORT_GRAN", type := .int, accessFlags := 26, slot := 0, constantValue := 0 }, { name := "INSERTIONSORT_THRESHOLD", type := .int, accessFlags := 26, slot := 1, constantValue := 0 }, { name := "$assertionsDisabled", type := .boolean, accessFlags := 4120, slot := 2, constantValue := 0 }]
  methods := #[k13m0, k13m1, k13m2, k13m3]
  instanceTypes := #[]
  staticTypes := #[.int, .int, .boolean]
  resolved := Array.replicate 1029 none
  statics := none }

def pool14 : Array CpInfo := pool [(1, .class_ 2), (0, u "java/lang/Math"), (1, .class_ 6), (1, u "java/lang/Object"), (0, u "<init>"), (0, u "()V"), (89, .class_ 100), (1, u "java/lang/Math$RandomNumberGeneratorHolder"), (71, u "negativeZeroFloatBits"), (0, u "J"), (2, u "negativeZeroDoubleBits"), (24, u "min"), (43, u "$assertionsDisabled"), (0, u "Z"), (88, u "(II)I"), (2, u "twoToTheDoubleScaleDown"), (0, u "D"), (4, u "twoToTheDoubleScaleUp"), (9, u "E"), (3, u "PI"), (2, u "TAU"), (2, u "DEGREES_TO_RADIANS"), (0, u "RADIANS_TO_DEGREES")] 94

def k14m0 : Method := { name := "<init>", desc := "()V", sig := { parameters := [], returnType := none }, accessFlags := 2, code := none }
def k14c1 : Code := { maxStack := 2, maxLocals := 2, code := jdk_29_method_69_code, exceptionTable := #[], attributes := #[] }
def k14m1 : Method := { name := "min", desc := "(II)I", sig := { parameters := [.int, .int], returnType := some .int }, accessFlags := 9, code := some k14c1 }
/-- java/lang/Math -/
def k14 : Class := { plain "java/lang/Math" (some 0) with
  accessFlags := 49
  interfaces := #[]
  cf := some (fileOf pool14 1 #[.nestMembers #[98]] #[{ accessFlags := 2, nameIndex := 7, descriptorIndex := 8, attributes := #[] }, { accessFlags := 9, nameIndex := 201, descriptorIndex := 335, attributes := #[] }] 49 4 #[] #[{ accessFlags := 25, nameIndex := 354, descriptorIndex := 339, attributes := #[] }, { accessFlags := 25, nameIndex := 358, descriptorIndex := 339, attributes := #[] }, { accessFlags := 25, nameIndex := 361, descriptorIndex := 339, attributes := #[] }, { accessFlags := 26, nameIndex := 364, descriptorIndex := 339, attributes := #[] }, { accessFlags := 26, nameIndex := 365, descriptorIndex := 339, attributes := #[] }, { accessFlags := 26, nameIndex := 172, descriptorIndex := 173, attributes := #[] }, { accessFlags := 26, nameIndex := 176, descriptorIndex := 173, attributes := #[] }, { accessFlags := 8, nameIndex := 344, descriptorIndex := 339, attributes := #[] }, { accessFlags := 8, nameIndex := 338, descriptorIndex := 339, attributes := #[] }, { accessFlags := 4120, nameIndex := 245, descriptorIndex := 246, attributes := #[] }])
  fields := #[{ name := "E", type := .double, accessFlags := 25, slot := 0, constantValue := 0 }, { name := "PI", type := .double, accessFlags := 25, slot := 1, constantValue := 0 }, { name := "TAU", type := .double, accessFlags := 25, slot := 2, constantValue := 0 }, { name := "DEGREES_TO_RADIANS", type := .double, accessFlags := 26, slot := 3, constantValue := 0 }, { name := "RADIANS_TO_DEGREES", type := .double, accessFlags := 26, slot := 4, constantValue := 0 }, { name := "negativeZeroFloatBits", type := .long, accessFlags := 26, slot := 5, constantValue := 0 }, { name := "negativeZeroDoubleBits", type := .long, accessFlags := 26, slot := 6, constantValue := 0 }, { name := "twoToTheDoubleScaleUp", type := .double, accessFlags := 8, slot := 7, constantValue := 0 }, { name := "twoToTheDoubleScaleDown", type := .double, accessFlags := 8, slot := 8, constantValue := 0 }, { name := "$assertionsDisabled", type := .boolean, accessFlags := 4120, slot := 9, constantValue := 0 }]
  methods := #[k14m0, k14m1]
  instanceTypes := #[]
  staticTypes := #[.double, .double, .double, .double, .double, .long, .long, .double, .double, .boolean]
  resolved := Array.replicate 460 none
  statics := none }

def pool15 : Array CpInfo := pool [(2, .class_ 4), (1, u "java/lang/Object"), (0, u "<init>"), (0, u "()V"), (1, .class_ 10), (1, u "java/lang/System"), (0, u "allowSecurityManager"), (0, u "I"), (16, u "cons"), (0, u "Ljava/io/Console;"), (77, .class_ 110), (1, u "java/lang/System$CallersHolder"), (43, u "initialErrStream"), (0, u "Ljava/io/PrintStream;"), (19, u "security"), (0, u "Ljava/lang/SecurityManager;"), (31, .class_ 209), (0, u "java/lang/System$1"), (7, u "props"), (0, u "Ljava/util/Properties;"), (2, u "lineSeparator"), (0, u "Ljava/lang/String;"), (96, .class_ 321), (1, u "java/lang/System$LoggerFinder"), (5, .class_ 328), (0, u "java/lang/System$Logger"), (67, u "err"), (2, u "out"), (91, u "notSupportedJnuEncoding"), (15, u "in"), (17, u "initialIn"), (0, u "Ljava/io/InputStream;"), (35, u "bootLayer"), (0, u "Ljava/lang/ModuleLayer;"), (99, .class_ 664), (0, u "java/lang/System$2"), (9, u "NEVER"), (2, u "MAYBE"), (49, u "arraycopy"), (0, u "(Ljava/lang/Object;ILjava/lang/Object;II)V"), (72, .class_ 802), (0, u "java/lang/System$Logger$Level")] 31

def k15m0 : Method := { name := "<init>", desc := "()V", sig := { parameters := [], returnType := none }, accessFlags := 2, code := none }
def k15m1 : Method := { name := "arraycopy", desc := "(Ljava/lang/Object;ILjava/lang/Object;II)V", sig := { parameters := [(.object "java/lang/Object"), .int, (.object "java/lang/Object"), .int, .int], returnType := none }, accessFlags := 265, code := none }
/-- java/lang/System -/
def k15 : Class := { plain "java/lang/System" (some 0) with
  accessFlags := 49
  interfaces := #[]
  cf := some (fileOf pool15 8 #[.nestMembers #[319, 327, 801, 108, 663, 208]] #[{ accessFlags := 2, nameIndex := 5, descriptorIndex := 6, attributes := #[] }, { accessFlags := 265, nameIndex := 727, descriptorIndex := 728, attributes := #[] }] 49 2 #[] #[{ accessFlags := 25, nameIndex := 507, descriptorIndex := 526, attributes := #[] }, { accessFlags := 25, nameIndex := 399, descriptorIndex := 155, attributes := #[] }, { accessFlags := 25, nameIndex := 396, descriptorIndex := 155, attributes := #[] }, { accessFlags := 10, nameIndex := 525, descriptorIndex := 526, attributes := #[] }, { accessFlags := 26, nameIndex := 674, descriptorIndex := 12, attributes := #[] }, { accessFlags := 26, nameIndex := 677, descriptorIndex := 12, attributes := #[] }, { accessFlags := 10, nameIndex := 11, descriptorIndex := 12, attributes := #[] }, { accessFlags := 74, nameIndex := 175, descriptorIndex := 176, attributes := #[] }, { accessFlags := 10, nameIndex := 491, descriptorIndex := 222, attributes := #[] }, { accessFlags := 74, nameIndex := 29, descriptorIndex := 30, attributes := #[] }, { accessFlags := 74, nameIndex := 154, descriptorIndex := 155, attributes := #[] }, { accessFlags := 10, nameIndex := 217, descriptorIndex := 218, attributes := #[] }, { accessFlags := 10, nameIndex := 221, descriptorIndex := 222, attributes := #[] }, { accessFlags := 8, nameIndex := 562, descriptorIndex := 563, attributes := #[] }])
  fields := #[{ name := "in", type := (.object "java/io/InputStream"), accessFlags := 25, slot := 0, constantValue := 0 }, { name := "out", type := (.object "java/io/PrintStream"), accessFlags := 25, slot := 1, constantValue := 0 }, { name := "err", type := (.object "java/io/PrintStream"), accessFlags := 25, slot := 2, constantValue := 0 }, { name := "initialIn", type := (.object "java/io/InputStream"), accessFlags := 10, slot := 3, constantValue := 0 }, { name := "NEVER", type := .int, accessFlags := 26, slot := 4, constantValue := 0 }, { name := "MAYBE", type := .int, accessFlags := 26, slot := 5, constantValue := 0 }, { name := "allowSecurityManager", type := .int, accessFlags := 10, slot := 6, constantValue := 0 }, { name := "security", type := (.object "java/lang/SecurityManager"), accessFlags := 74, slot := 7, constantValue := 0 }, { name := "notSupportedJnuEncoding", type := (.object "java/lang/String"), accessFlags := 10, slot := 8, constantValue := 0 }, { name := "cons", type := (.object "java/io/Console"), accessFlags := 74, slot := 9, constantValue := 0 }, { name := "initialErrStream", type := (.object "java/io/PrintStream"), accessFlags := 74, slot := 10, constantValue := 0 }, { name := "props", type := (.object "java/util/Properties"), accessFlags := 10, slot := 11, constantValue := 0 }, { name := "lineSeparator", type := (.object "java/lang/String"), accessFlags := 10, slot := 12, constantValue := 0 }, { name := "bootLayer", type := (.object "java/lang/ModuleLayer"), accessFlags := 8, slot := 13, constantValue := 0 }]
  methods := #[k15m0, k15m1]
  instanceTypes := #[]
  staticTypes := #[(.object "java/io/InputStream"), (.object "java/io/PrintStream"), (.object "java/io/PrintStream"), (.object "java/io/InputStream"), .int, .int, .int, (.object "java/lang/SecurityManager"), (.object "java/lang/String"), (.object "java/io/Console"), (.object "java/io/PrintStream"), (.object "java/util/Properties"), (.object "java/lang/String"), (.object "java/lang/ModuleLayer")]
  resolved := Array.replicate 834 none
  statics := none }

def pool16 : Array CpInfo := pool [(2, .class_ 4), (1, u "java/lang/Object"), (0, u "<init>"), (0, u "()V"), (35, .class_ 44), (1, u "java/util/Objects"), (0, u "requireNonNull"), (0, u "(Ljava/lang/Object;)Ljava/lang/Object;")] 137

def k16m0 : Method := { name := "<init>", desc := "()V", sig := { parameters := [], returnType := none }, accessFlags := 2, code := none }
def k16c1 : Code := { maxStack := 2, maxLocals := 1, code := jdk_31_method_10_code, exceptionTable := #[], attributes := #[] }
def k16m1 : Method := { name := "requireNonNull", desc := "(Ljava/lang/Object;)Ljava/lang/Object;", sig := { parameters := [(.object "java/lang/Object")], returnType := some (.object "java/lang/Object") }, accessFlags := 9, code := some k16c1 }
/-- java/util/Objects -/
def k16 : Class := { plain "java/util/Objects" (some 0) with
  accessFlags := 49
  interfaces := #[]
  cf := some (fileOf pool16 42 #[] #[{ accessFlags := 2, nameIndex := 5, descriptorIndex := 6, attributes := #[] }, { accessFlags := 9, nameIndex := 45, descriptorIndex := 46, attributes := #[] }] 49 2 #[] #[])
  fields := #[]
  methods := #[k16m0, k16m1]
  instanceTypes := #[]
  staticTypes := #[]
  resolved := Array.replicate 184 none
  statics := none }

def pool17 : Array CpInfo := pool [(9, u "<init>"), (6, .class_ 18), (1, u "java/lang/Object"), (0, u "()V"), (1, .class_ 23), (1, u "jdk/internal/util/ArraysSupport"), (0, u "LOG2_ARRAY_LONG_INDEX_SCALE"), (0, u "I"), (2, u "U"), (0, u "Ljdk/internal/misc/Unsafe;"), (8, u "BIG_ENDIAN"), (0, u "Z"), (8, u "LOG2_BYTE_BIT_SIZE"), (4, u "LOG2_ARRAY_INT_INDEX_SCALE"), (54, u "JLA"), (0, u "Ljdk/internal/access/JavaLangAccess;"), (11, u "LOG2_ARRAY_BOOLEAN_INDEX_SCALE"), (9, u "LOG2_ARRAY_BYTE_INDEX_SCALE"), (5, u "LOG2_ARRAY_CHAR_INDEX_SCALE"), (5, u "LOG2_ARRAY_SHORT_INDEX_SCALE"), (18, u "LOG2_ARRAY_FLOAT_INDEX_SCALE"), (24, u "LOG2_ARRAY_DOUBLE_INDEX_SCALE"), (89, u "T_BOOLEAN"), (2, u "T_CHAR"), (1, u "T_FLOAT"), (1, u "T_DOUBLE"), (1, u "T_BYTE"), (1, u "T_SHORT"), (1, u "T_INT"), (1, u "T_LONG"), (1, u "SOFT_MAX_ARRAY_LENGTH")] 83

def k17m0 : Method := { name := "<init>", desc := "()V", sig := { parameters := [], returnType := none }, accessFlags := 2, code := none }
/-- jdk/internal/util/ArraysSupport -/
def k17 : Class := { plain "jdk/internal/util/ArraysSupport" (some 0) with
  accessFlags := 33
  interfaces := #[]
  cf := some (fileOf pool17 21 #[] #[{ accessFlags := 2, nameIndex := 9, descriptorIndex := 19, attributes := #[] }] 33 16 #[] #[{ accessFlags := 24, nameIndex := 28, descriptorIndex := 29, attributes := #[] }, { accessFlags := 26, nameIndex := 38, descriptorIndex := 39, attributes := #[] }, { accessFlags := 25, nameIndex := 121, descriptorIndex := 25, attributes := #[] }, { accessFlags := 25, nameIndex := 131, descriptorIndex := 25, attributes := #[] }, { accessFlags := 25, nameIndex := 137, descriptorIndex := 25, attributes := #[] }, { accessFlags := 25, nameIndex := 143, descriptorIndex := 25, attributes := #[] }, { accessFlags := 25, nameIndex := 53, descriptorIndex := 25, attributes := #[] }, { accessFlags := 25, nameIndex := 24, descriptorIndex := 25, attributes := #[] }, { accessFlags := 25, nameIndex := 162, descriptorIndex := 25, attributes := #[] }, { accessFlags := 25, nameIndex := 187, descriptorIndex := 25, attributes := #[] }, { accessFlags := 26, nameIndex := 48, descriptorIndex := 25, attributes := #[] }, { accessFlags := 25, nameIndex := 277, descriptorIndex := 25, attributes := #[] }, { accessFlags := 25, nameIndex := 280, descriptorIndex := 25, attributes := #[] }, { accessFlags := 25, nameIndex := 282, descriptorIndex := 25, attributes := #[] }, { accessFlags := 25, nameIndex := 284, descriptorIndex := 25, attributes := #[] }, { accessFlags := 25, nameIndex := 286, descriptorIndex := 25, attributes := #[] }, { accessFlags := 25, nameIndex := 288, descriptorIndex := 25, attributes := #[] }, { accessFlags := 25, nameIndex := 290, descriptorIndex := 25, attributes := #[] }, { accessFlags := 25, nameIndex := 292, descriptorIndex := 25, attributes := #[] }, { accessFlags := 26, nameIndex := 108, descriptorIndex := 109, attributes := #[] }, { accessFlags := 25, nameIndex := 294, descriptorIndex := 25, attributes := #[] }])
  fields := #[{ name := "U", type := (.object "jdk/internal/misc/Unsafe"), accessFlags := 24, slot := 0, constantValue := 0 }, { name := "BIG_ENDIAN", type := .boolean, accessFlags := 26, slot := 1, constantValue := 0 }, { name := "LOG2_ARRAY_BOOLEAN_INDEX_SCALE", type := .int, accessFlags := 25, slot := 2, constantValue := 0 }, { name := "LOG2_ARRAY_BYTE_INDEX_SCALE", type := .int, accessFlags := 25, slot := 3, constantValue := 0 }, { name := "LOG2_ARRAY_CHAR_INDEX_SCALE", type := .int, accessFlags := 25, slot := 4, constantValue := 0 }, { name := "LOG2_ARRAY_SHORT_INDEX_SCALE", type := .int, accessFlags := 25, slot := 5, constantValue := 0 }, { name := "LOG2_ARRAY_INT_INDEX_SCALE", type := .int, accessFlags := 25, slot := 6, constantValue := 0 }, { name := "LOG2_ARRAY_LONG_INDEX_SCALE", type := .int, accessFlags := 25, slot := 7, constantValue := 0 }, { name := "LOG2_ARRAY_FLOAT_INDEX_SCALE", type := .int, accessFlags := 25, slot := 8, constantValue := 0 }, { name := "LOG2_ARRAY_DOUBLE_INDEX_SCALE", type := .int, accessFlags := 25, slot := 9, constantValue := 0 }, { name := "LOG2_BYTE_BIT_SIZE", type := .int, accessFlags := 26, slot := 10, constantValue := 0 }, { name := "T_BOOLEAN", type := .int, accessFlags := 25, slot := 11, constantValue := 0 }, { name := "T_CHAR", type := .int, accessFlags := 25, slot := 12, constantValue := 0 }, { name := "T_FLOAT", type := .int, accessFlags := 25, slot := 13, constantValue := 0 }, { name := "T_DOUBLE", type := .int, accessFlags := 25, slot := 14, constantValue := 0 }, { name := "T_BYTE", type := .int, accessFlags := 25, slot := 15, constantValue := 0 }, { name := "T_SHORT", type := .int, accessFlags := 25, slot := 16, constantValue := 0 }, { name := "T_INT", type := .int, accessFlags := 25, slot := 17, constantValue := 0 }, { name := "T_LONG", type := .int, accessFlags := 25, slot := 18, constantValue := 0 }, { name := "JLA", type := (.object "jdk/internal/access/JavaLangAccess"), accessFlags := 26, slot := 19, constantValue := 0 }, { name := "SOFT_MAX_ARRAY_LENGTH", type := .int, accessFlags := 25, slot := 20, constantValue := 0 }]
  methods := #[k17m0]
  instanceTypes := #[]
  staticTypes := #[(.object "jdk/internal/misc/Unsafe"), .boolean, .int, .int, .int, .int, .int, .int, .int, .int, .int, .int, .int, .int, .int, .int, .int, .int, .int, (.object "jdk/internal/access/JavaLangAccess"), .int]
  resolved := Array.replicate 378 none
  statics := none }

def pool18 : Array CpInfo := pool [(1, u "java/lang/Cloneable"), (0, .class_ 1), (0, u "java/lang/Object"), (0, .class_ 3)] 3

/-- java/lang/Cloneable -/
def k18 : Class := { plain "java/lang/Cloneable" (some 0) with
  accessFlags := 1537
  interfaces := #[]
  cf := some (fileOf pool18 2 #[] #[] 1537 4 #[] #[])
  fields := #[]
  methods := #[]
  instanceTypes := #[]
  staticTypes := #[]
  resolved := Array.replicate 8 none
  statics := none }

/-- the primitive byte -/
def k19 : Class := { plain "byte" none with kind := .primitive 'B', accessFlags := 0x411 }
/-- [B -/
def k20 : Class := { plain "[B" (some 0) with kind := .array 19 .byte, interfaces := #[18, 2], accessFlags := 1041 }

/-- the primitive char -/
def k21 : Class := { plain "char" none with kind := .primitive 'C', accessFlags := 0x411 }
/-- [C -/
def k22 : Class := { plain "[C" (some 0) with kind := .array 21 .char, interfaces := #[18, 2], accessFlags := 1041 }

/-- the primitive int -/
def k23 : Class := { plain "int" none with kind := .primitive 'I', accessFlags := 0x411 }
/-- [I -/
def k24 : Class := { plain "[I" (some 0) with kind := .array 23 .int, interfaces := #[18, 2], accessFlags := 1041 }

def heap : Heap := #[{ cls := 7, slots := #[.long 0, .int 1, .null, .int 0, .null, .int 0, .int 0], vm := .statics 7 },
  { cls := 8, slots := #[.int 0, .int 8, .int 0, .int 1], vm := .statics 8 },
  { cls := 11, slots := #[.null, .null, .null], vm := .statics 11 },
  { cls := 12, slots := #[.ref 4], vm := .statics 12 },
  { cls := 12, slots := #[.null], vm := .none }]
def classes : Array Class := #[k0, k1, k2, k3, k4, k5, k6, k7, k8, k9, k10, k11, k12, k13, k14, k15, k16, k17, k18, k19, k20, k21, k22, k23, k24]
def interned : List (Array UInt16 × Addr) := []
def slotsUsed : Nat := 16
def theMethod : MethodId := ⟨1, 2⟩
def args0 : Array Value := #[.int 5, .int 6, .int 7, .int 8, .int 9, .int 10]
def aboutOver (below : List Frame) : State where
  vm := { classes := classes, interned := interned.toArray }
  heap := heap
  slotsUsed := slotsUsed
  threads := #[{ frames := .invoking theMethod args0 :: below }]
def below0 : List Frame := [.native { method := ⟨0, 0⟩, args := #[] }]
def about1 : State := aboutOver below0
def p0 : Program := .bare "" "" ""
def e0 : Env := launch0.env 0 0 0
theorem w_frames : about1.frames = Frame.invoking theMethod args0 :: below0 := rfl
set_option maxRecDepth 65536 in
theorem w_args : argsFit about1.vm theMethod args0 = true := by decide +kernel
set_option maxRecDepth 65536 in
theorem w_heap : heapFits about1 = true := by decide +kernel
set_option maxRecDepth 65536 in
theorem w_runnable : about1.curStatus? = some .runnable := by decide +kernel
set_option maxRecDepth 65536 in
theorem w_alone : about1.alone = true := by decide +kernel
set_option maxRecDepth 65536 in
theorem w_named : about1.methodNamed? x = some theMethod := by decide +kernel
set_option maxRecDepth 65536 in
theorem w_hears : about1.hears theMethod below0 = true := by decide +kernel
set_option maxRecDepth 65536 in
theorem w_ripe : about1.ripe theMethod args0 below0 = true := by decide +kernel
theorem w_running : about1.status = .running := rfl
set_option maxRecDepth 65536 in
theorem w_room : about1.hasRoom e0.platform room_1 = true :=
  launch0.hasRoom_least _ room_1 (by decide +kernel) (by decide +kernel) (by decide +kernel) (by decide +kernel) (by decide +kernel) (by decide +kernel)
theorem allAtoms_all (ts : List Jvm.Cond) (a : Array Jvm.Value) (st : Jvm.State) : (allAtoms ts).before a st = ts.all (fun c => c.before a st) := by
  induction ts with
  | nil => rfl
  | cons c t ih =>
    show (Jvm.Cond.and c (allAtoms t)).before a st = _
    rw [Jvm.Cond.before_and, ih, List.all_cons]
def words1 : List Jvm.Cond := Jvm.Cond.code x code maxLocals ret :: tables_1
/-- a 'code' word, met by the world's own term for the bytes: nothing is compared byte by byte -/
theorem code_word {y : MethodName} {bytes : ByteArray} {mx : Nat} {rt : Option FieldType} {a : Array Value} {s : State} {m : MethodId} {meth : Method} {c : Code} (h1 : s.methodNamed? y = some m) (h2 : s.vm.method? m = some meth) (h3 : meth.code = some c) (h4 : c.code = bytes)
    (h5 : (c.maxLocals == mx && c.exceptionTable.isEmpty && decide (c.maxStack ≤ mostOperands) && decide (meth.sig.returnType = rt) && !meth.locks && decide (parseMethodDescriptor y.desc = some meth.sig)) = true) : (Jvm.Cond.code y bytes mx rt).before a s = true := by
  simp only [Bool.and_eq_true, beq_iff_eq, Bool.not_eq_true', decide_eq_true_eq] at h5
  obtain ⟨⟨⟨⟨⟨g1, g2⟩, g3⟩, g4⟩, g5⟩, g6⟩ := h5
  simp [Cond.before, Cond.holds, Cond.value, h1, h2, h3, h4, g1, g2, g3, g4, g5, g6]
def isCode : Jvm.Cond → Bool
  | .code _ _ _ _ => true
  | _ => false
theorem all_split {L : List Jvm.Cond} {P : Jvm.Cond → Bool} (h1 : L.all (fun c => isCode c || P c) = true) (h2 : ∀ c ∈ L.filter isCode, P c = true) : L.all P = true := by
  refine List.all_eq_true.mpr fun c hc => ?_
  have h := List.all_eq_true.mp h1 c hc
  rcases Bool.eq_false_or_eq_true (isCode c) with hi | hi
  · exact h2 c (List.mem_filter.mpr ⟨hc, hi⟩)
  · simpa [hi] using h
set_option maxRecDepth 65536 in
theorem w_c0 : (Jvm.Cond.code x code maxLocals ret).before args0 about1 = true := code_word (m := ⟨1, 2⟩) (meth := k1m2) (c := k1c2) (by decide +kernel) rfl rfl rfl (by decide +kernel)
set_option maxRecDepth 65536 in
theorem w_c1 : (Jvm.Cond.code ({ cls := "com/example/crossgate/crossgate/AgentTokenHandleInPinLaw", name := "pick", desc := "(I)[C" } : Jvm.MethodName) method_2_code (1 : Nat) (Option.some (Jvm.ClassFile.FieldType.array Jvm.ClassFile.FieldType.char))).before args0 about1 = true := code_word (m := ⟨1, 1⟩) (meth := k1m1) (c := k1c1) (by decide +kernel) rfl rfl rfl (by decide +kernel)
set_option maxRecDepth 65536 in
theorem w_c2 : (Jvm.Cond.code ({ cls := "java/lang/String", name := "<init>", desc := "([C)V" } : Jvm.MethodName) jdk_42_method_3_code (2 : Nat) (Option.none : Option Jvm.ClassFile.FieldType)).before args0 about1 = true := code_word (m := ⟨7, 1⟩) (meth := k7m1) (c := k7c1) (by decide +kernel) rfl rfl rfl (by decide +kernel)
set_option maxRecDepth 65536 in
theorem w_c3 : (Jvm.Cond.code ({ cls := "java/lang/String", name := "<init>", desc := "([CIILjava/lang/Void;)V" } : Jvm.MethodName) jdk_42_method_149_code (6 : Nat) (Option.none : Option Jvm.ClassFile.FieldType)).before args0 about1 = true := code_word (m := ⟨7, 6⟩) (meth := k7m6) (c := k7c6) (by decide +kernel) rfl rfl rfl (by decide +kernel)
set_option maxRecDepth 65536 in
theorem w_c4 : (Jvm.Cond.code ({ cls := "java/lang/Object", name := "<init>", desc := "()V" } : Jvm.MethodName) object_method_1_code (1 : Nat) (Option.none : Option Jvm.ClassFile.FieldType)).before args0 about1 = true := code_word (m := ⟨0, 0⟩) (meth := k0m0) (c := k0c0) (by decide +kernel) rfl rfl rfl (by decide +kernel)
set_option maxRecDepth 65536 in
theorem w_c5 : (Jvm.Cond.code ({ cls := "java/lang/StringUTF16", name := "compress", desc := "([CII)[B" } : Jvm.MethodName) jdk_52_method_16_code (6 : Nat) (Option.some (Jvm.ClassFile.FieldType.array Jvm.ClassFile.FieldType.byte))).before args0 about1 = true := code_word (m := ⟨8, 8⟩) (meth := k8m8) (c := k8c8) (by decide +kernel) rfl rfl rfl (by decide +kernel)
set_option maxRecDepth 65536 in
theorem w_c6 : (Jvm.Cond.code ({ cls := "java/lang/StringUTF16", name := "compress", desc := "([CI[BII)I" } : Jvm.MethodName) jdk_52_method_21_code (7 : Nat) (Option.some Jvm.ClassFile.FieldType.int)).before args0 about1 = true := code_word (m := ⟨8, 10⟩) (meth := k8m10) (c := k8c10) (by decide +kernel) rfl rfl rfl (by decide +kernel)
set_option maxRecDepth 65536 in
theorem w_c7 : (Jvm.Cond.code ({ cls := "java/lang/StringUTF16", name := "coderFromArrayLen", desc := "([BI)B" } : Jvm.MethodName) jdk_52_method_15_code (2 : Nat) (Option.some Jvm.ClassFile.FieldType.byte)).before args0 about1 = true := code_word (m := ⟨8, 7⟩) (meth := k8m7) (c := k8c7) (by decide +kernel) rfl rfl rfl (by decide +kernel)
set_option maxRecDepth 65536 in
theorem w_c8 : (Jvm.Cond.code ({ cls := "com/example/crossgate/crossgate/AgentToken", name := "handleIn", desc := "(Ljava/lang/String;)Ljava/util/Optional;" } : Jvm.MethodName) prog_11_method_5_code (1 : Nat) (Option.some (Jvm.ClassFile.FieldType.object "java/util/Optional"))).before args0 about1 = true := code_word (m := ⟨9, 1⟩) (meth := k9m1) (c := k9c1) (by decide +kernel) rfl rfl rfl (by decide +kernel)
set_option maxRecDepth 65536 in
theorem w_c9 : (Jvm.Cond.code ({ cls := "java/lang/String", name := "length", desc := "()I" } : Jvm.MethodName) jdk_42_method_54_code (1 : Nat) (Option.some Jvm.ClassFile.FieldType.int)).before args0 about1 = true := code_word (m := ⟨7, 2⟩) (meth := k7m2) (c := k7c2) (by decide +kernel) rfl rfl rfl (by decide +kernel)
set_option maxRecDepth 65536 in
theorem w_c10 : (Jvm.Cond.code ({ cls := "java/lang/String", name := "coder", desc := "()B" } : Jvm.MethodName) jdk_42_method_152_code (1 : Nat) (Option.some Jvm.ClassFile.FieldType.byte)).before args0 about1 = true := code_word (m := ⟨7, 8⟩) (meth := k7m8) (c := k7c8) (by decide +kernel) rfl rfl rfl (by decide +kernel)
set_option maxRecDepth 65536 in
theorem w_c11 : (Jvm.Cond.code ({ cls := "java/lang/String", name := "charAt", desc := "(I)C" } : Jvm.MethodName) jdk_42_method_56_code (2 : Nat) (Option.some Jvm.ClassFile.FieldType.char)).before args0 about1 = true := code_word (m := ⟨7, 3⟩) (meth := k7m3) (c := k7c3) (by decide +kernel) rfl rfl rfl (by decide +kernel)
set_option maxRecDepth 65536 in
theorem w_c12 : (Jvm.Cond.code ({ cls := "java/lang/String", name := "isLatin1", desc := "()Z" } : Jvm.MethodName) jdk_42_method_154_code (1 : Nat) (Option.some Jvm.ClassFile.FieldType.boolean)).before args0 about1 = true := code_word (m := ⟨7, 9⟩) (meth := k7m9) (c := k7c9) (by decide +kernel) rfl rfl rfl (by decide +kernel)
set_option maxRecDepth 65536 in
theorem w_c13 : (Jvm.Cond.code ({ cls := "java/lang/StringLatin1", name := "charAt", desc := "([BI)C" } : Jvm.MethodName) jdk_43_method_2_code (2 : Nat) (Option.some Jvm.ClassFile.FieldType.char)).before args0 about1 = true := code_word (m := ⟨10, 1⟩) (meth := k10m1) (c := k10c1) (by decide +kernel) rfl rfl rfl (by decide +kernel)
set_option maxRecDepth 65536 in
theorem w_c14 : (Jvm.Cond.code ({ cls := "java/lang/String", name := "checkIndex", desc := "(II)V" } : Jvm.MethodName) jdk_42_method_155_code (2 : Nat) (Option.none : Option Jvm.ClassFile.FieldType)).before args0 about1 = true := code_word (m := ⟨7, 10⟩) (meth := k7m10) (c := k7c10) (by decide +kernel) rfl rfl rfl (by decide +kernel)
set_option maxRecDepth 65536 in
theorem w_c15 : (Jvm.Cond.code ({ cls := "jdk/internal/util/Preconditions", name := "checkIndex", desc := "(IILjava/util/function/BiFunction;)I" } : Jvm.MethodName) jdk_41_method_11_code (3 : Nat) (Option.some Jvm.ClassFile.FieldType.int)).before args0 about1 = true := code_word (m := ⟨11, 1⟩) (meth := k11m1) (c := k11c1) (by decide +kernel) rfl rfl rfl (by decide +kernel)
set_option maxRecDepth 65536 in
theorem w_c16 : (Jvm.Cond.code ({ cls := "java/util/Optional", name := "empty", desc := "()Ljava/util/Optional;" } : Jvm.MethodName) jdk_32_method_1_code (1 : Nat) (Option.some (Jvm.ClassFile.FieldType.object "java/util/Optional"))).before args0 about1 = true := code_word (m := ⟨12, 0⟩) (meth := k12m0) (c := k12c0) (by decide +kernel) rfl rfl rfl (by decide +kernel)
set_option maxRecDepth 65536 in
theorem w_c17 : (Jvm.Cond.code ({ cls := "java/util/Optional", name := "isPresent", desc := "()Z" } : Jvm.MethodName) jdk_32_method_6_code (1 : Nat) (Option.some Jvm.ClassFile.FieldType.boolean)).before args0 about1 = true := code_word (m := ⟨12, 4⟩) (meth := k12m4) (c := k12c4) (by decide +kernel) rfl rfl rfl (by decide +kernel)
set_option maxRecDepth 65536 in
theorem w_c18 : (Jvm.Cond.code ({ cls := "java/lang/StringUTF16", name := "toBytes", desc := "([CII)[B" } : Jvm.MethodName) jdk_52_method_14_code (5 : Nat) (Option.some (Jvm.ClassFile.FieldType.array Jvm.ClassFile.FieldType.byte))).before args0 about1 = true := code_word (m := ⟨8, 6⟩) (meth := k8m6) (c := k8c6) (by decide +kernel) rfl rfl rfl (by decide +kernel)
set_option maxRecDepth 65536 in
theorem w_c19 : (Jvm.Cond.code ({ cls := "java/lang/StringUTF16", name := "newBytesFor", desc := "(I)[B" } : Jvm.MethodName) jdk_52_method_2_code (1 : Nat) (Option.some (Jvm.ClassFile.FieldType.array Jvm.ClassFile.FieldType.byte))).before args0 about1 = true := code_word (m := ⟨8, 1⟩) (meth := k8m1) (c := k8c1) (by decide +kernel) rfl rfl rfl (by decide +kernel)
set_option maxRecDepth 65536 in
theorem w_c20 : (Jvm.Cond.code ({ cls := "java/lang/StringUTF16", name := "newBytesLength", desc := "(I)I" } : Jvm.MethodName) jdk_52_method_3_code (1 : Nat) (Option.some Jvm.ClassFile.FieldType.int)).before args0 about1 = true := code_word (m := ⟨8, 2⟩) (meth := k8m2) (c := k8c2) (by decide +kernel) rfl rfl rfl (by decide +kernel)
set_option maxRecDepth 65536 in
theorem w_c21 : (Jvm.Cond.code ({ cls := "java/lang/StringUTF16", name := "putChar", desc := "([BII)V" } : Jvm.MethodName) jdk_52_method_4_code (3 : Nat) (Option.none : Option Jvm.ClassFile.FieldType)).before args0 about1 = true := code_word (m := ⟨8, 3⟩) (meth := k8m3) (c := k8c3) (by decide +kernel) rfl rfl rfl (by decide +kernel)
set_option maxRecDepth 65536 in
theorem w_c22 : (Jvm.Cond.code ({ cls := "java/lang/StringUTF16", name := "getChar", desc := "([BI)C" } : Jvm.MethodName) jdk_52_method_5_code (2 : Nat) (Option.some Jvm.ClassFile.FieldType.char)).before args0 about1 = true := code_word (m := ⟨8, 4⟩) (meth := k8m4) (c := k8c4) (by decide +kernel) rfl rfl rfl (by decide +kernel)
set_option maxRecDepth 65536 in
theorem w_c23 : (Jvm.Cond.code ({ cls := "java/lang/StringUTF16", name := "charAt", desc := "([BI)C" } : Jvm.MethodName) jdk_52_method_83_code (2 : Nat) (Option.some Jvm.ClassFile.FieldType.char)).before args0 about1 = true := code_word (m := ⟨8, 13⟩) (meth := k8m13) (c := k8c13) (by decide +kernel) rfl rfl rfl (by decide +kernel)
set_option maxRecDepth 65536 in
theorem w_c24 : (Jvm.Cond.code ({ cls := "java/lang/StringUTF16", name := "checkIndex", desc := "(I[B)V" } : Jvm.MethodName) jdk_52_method_91_code (2 : Nat) (Option.none : Option Jvm.ClassFile.FieldType)).before args0 about1 = true := code_word (m := ⟨8, 14⟩) (meth := k8m14) (c := k8c14) (by decide +kernel) rfl rfl rfl (by decide +kernel)
set_option maxRecDepth 65536 in
theorem w_c25 : (Jvm.Cond.code ({ cls := "java/lang/StringUTF16", name := "length", desc := "([B)I" } : Jvm.MethodName) jdk_52_method_6_code (1 : Nat) (Option.some Jvm.ClassFile.FieldType.int)).before args0 about1 = true := code_word (m := ⟨8, 5⟩) (meth := k8m5) (c := k8c5) (by decide +kernel) rfl rfl rfl (by decide +kernel)
set_option maxRecDepth 65536 in
theorem w_c26 : (Jvm.Cond.code ({ cls := "java/lang/String", name := "substring", desc := "(II)Ljava/lang/String;" } : Jvm.MethodName) jdk_42_method_92_code (5 : Nat) (Option.some (Jvm.ClassFile.FieldType.object "java/lang/String"))).before args0 about1 = true := code_word (m := ⟨7, 5⟩) (meth := k7m5) (c := k7c5) (by decide +kernel) rfl rfl rfl (by decide +kernel)
set_option maxRecDepth 65536 in
theorem w_c27 : (Jvm.Cond.code ({ cls := "java/lang/String", name := "checkBoundsBeginEnd", desc := "(III)V" } : Jvm.MethodName) jdk_42_method_158_code (3 : Nat) (Option.none : Option Jvm.ClassFile.FieldType)).before args0 about1 = true := code_word (m := ⟨7, 12⟩) (meth := k7m12) (c := k7c12) (by decide +kernel) rfl rfl rfl (by decide +kernel)
set_option maxRecDepth 65536 in
theorem w_c28 : (Jvm.Cond.code ({ cls := "jdk/internal/util/Preconditions", name := "checkFromToIndex", desc := "(IIILjava/util/function/BiFunction;)I" } : Jvm.MethodName) jdk_41_method_12_code (4 : Nat) (Option.some Jvm.ClassFile.FieldType.int)).before args0 about1 = true := code_word (m := ⟨11, 2⟩) (meth := k11m2) (c := k11c2) (by decide +kernel) rfl rfl rfl (by decide +kernel)
set_option maxRecDepth 65536 in
theorem w_c29 : (Jvm.Cond.code ({ cls := "java/lang/StringUTF16", name := "newString", desc := "([BII)Ljava/lang/String;" } : Jvm.MethodName) jdk_52_method_69_code (5 : Nat) (Option.some (Jvm.ClassFile.FieldType.object "java/lang/String"))).before args0 about1 = true := code_word (m := ⟨8, 12⟩) (meth := k8m12) (c := k8c12) (by decide +kernel) rfl rfl rfl (by decide +kernel)
set_option maxRecDepth 65536 in
theorem w_c30 : (Jvm.Cond.code ({ cls := "java/lang/StringUTF16", name := "compress", desc := "([BII)[B" } : Jvm.MethodName) jdk_52_method_17_code (6 : Nat) (Option.some (Jvm.ClassFile.FieldType.array Jvm.ClassFile.FieldType.byte))).before args0 about1 = true := code_word (m := ⟨8, 9⟩) (meth := k8m9) (c := k8c9) (by decide +kernel) rfl rfl rfl (by decide +kernel)
set_option maxRecDepth 65536 in
theorem w_c31 : (Jvm.Cond.code ({ cls := "java/lang/StringUTF16", name := "compress", desc := "([BI[BII)I" } : Jvm.MethodName) jdk_52_method_22_code (7 : Nat) (Option.some Jvm.ClassFile.FieldType.int)).before args0 about1 = true := code_word (m := ⟨8, 11⟩) (meth := k8m11) (c := k8c11) (by decide +kernel) rfl rfl rfl (by decide +kernel)
set_option maxRecDepth 65536 in
theorem w_c32 : (Jvm.Cond.code ({ cls := "java/lang/StringUTF16", name := "checkBoundsOffCount", desc := "(II[B)V" } : Jvm.MethodName) jdk_52_method_94_code (3 : Nat) (Option.none : Option Jvm.ClassFile.FieldType)).before args0 about1 = true := code_word (m := ⟨8, 15⟩) (meth := k8m15) (c := k8c15) (by decide +kernel) rfl rfl rfl (by decide +kernel)
set_option maxRecDepth 65536 in
theorem w_c33 : (Jvm.Cond.code ({ cls := "java/lang/String", name := "checkBoundsOffCount", desc := "(III)I" } : Jvm.MethodName) jdk_42_method_157_code (3 : Nat) (Option.some Jvm.ClassFile.FieldType.int)).before args0 about1 = true := code_word (m := ⟨7, 11⟩) (meth := k7m11) (c := k7c11) (by decide +kernel) rfl rfl rfl (by decide +kernel)
set_option maxRecDepth 65536 in
theorem w_c34 : (Jvm.Cond.code ({ cls := "jdk/internal/util/Preconditions", name := "checkFromIndexSize", desc := "(IIILjava/util/function/BiFunction;)I" } : Jvm.MethodName) jdk_41_method_13_code (4 : Nat) (Option.some Jvm.ClassFile.FieldType.int)).before args0 about1 = true := code_word (m := ⟨11, 3⟩) (meth := k11m3) (c := k11c3) (by decide +kernel) rfl rfl rfl (by decide +kernel)
set_option maxRecDepth 65536 in
theorem w_c35 : (Jvm.Cond.code ({ cls := "java/util/Arrays", name := "copyOfRange", desc := "([BII)[B" } : Jvm.MethodName) jdk_65_method_132_code (3 : Nat) (Option.some (Jvm.ClassFile.FieldType.array Jvm.ClassFile.FieldType.byte))).before args0 about1 = true := code_word (m := ⟨13, 2⟩) (meth := k13m2) (c := k13c2) (by decide +kernel) rfl rfl rfl (by decide +kernel)
set_option maxRecDepth 65536 in
theorem w_c36 : (Jvm.Cond.code ({ cls := "java/util/Arrays", name := "copyOfRangeByte", desc := "([BII)[B" } : Jvm.MethodName) jdk_65_method_133_code (5 : Nat) (Option.some (Jvm.ClassFile.FieldType.array Jvm.ClassFile.FieldType.byte))).before args0 about1 = true := code_word (m := ⟨13, 3⟩) (meth := k13m3) (c := k13c3) (by decide +kernel) rfl rfl rfl (by decide +kernel)
set_option maxRecDepth 65536 in
theorem w_c37 : (Jvm.Cond.code ({ cls := "java/util/Arrays", name := "checkLength", desc := "(II)V" } : Jvm.MethodName) jdk_65_method_131_code (2 : Nat) (Option.none : Option Jvm.ClassFile.FieldType)).before args0 about1 = true := code_word (m := ⟨13, 1⟩) (meth := k13m1) (c := k13c1) (by decide +kernel) rfl rfl rfl (by decide +kernel)
set_option maxRecDepth 65536 in
theorem w_c38 : (Jvm.Cond.code ({ cls := "java/lang/Math", name := "min", desc := "(II)I" } : Jvm.MethodName) jdk_29_method_69_code (2 : Nat) (Option.some Jvm.ClassFile.FieldType.int)).before args0 about1 = true := code_word (m := ⟨14, 1⟩) (meth := k14m1) (c := k14c1) (by decide +kernel) rfl rfl rfl (by decide +kernel)
set_option maxRecDepth 65536 in
theorem w_c39 : (Jvm.Cond.code ({ cls := "java/lang/String", name := "<init>", desc := "([BB)V" } : Jvm.MethodName) jdk_42_method_151_code (3 : Nat) (Option.none : Option Jvm.ClassFile.FieldType)).before args0 about1 = true := code_word (m := ⟨7, 7⟩) (meth := k7m7) (c := k7c7) (by decide +kernel) rfl rfl rfl (by decide +kernel)
set_option maxRecDepth 65536 in
theorem w_c40 : (Jvm.Cond.code ({ cls := "java/util/Optional", name := "of", desc := "(Ljava/lang/Object;)Ljava/util/Optional;" } : Jvm.MethodName) jdk_32_method_3_code (1 : Nat) (Option.some (Jvm.ClassFile.FieldType.object "java/util/Optional"))).before args0 about1 = true := code_word (m := ⟨12, 2⟩) (meth := k12m2) (c := k12c2) (by decide +kernel) rfl rfl rfl (by decide +kernel)
set_option maxRecDepth 65536 in
theorem w_c41 : (Jvm.Cond.code ({ cls := "java/util/Objects", name := "requireNonNull", desc := "(Ljava/lang/Object;)Ljava/lang/Object;" } : Jvm.MethodName) jdk_31_method_10_code (1 : Nat) (Option.some (Jvm.ClassFile.FieldType.object "java/lang/Object"))).before args0 about1 = true := code_word (m := ⟨16, 1⟩) (meth := k16m1) (c := k16c1) (by decide +kernel) rfl rfl rfl (by decide +kernel)
set_option maxRecDepth 65536 in
theorem w_c42 : (Jvm.Cond.code ({ cls := "java/util/Optional", name := "<init>", desc := "(Ljava/lang/Object;)V" } : Jvm.MethodName) jdk_32_method_2_code (2 : Nat) (Option.none : Option Jvm.ClassFile.FieldType)).before args0 about1 = true := code_word (m := ⟨12, 1⟩) (meth := k12m1) (c := k12c1) (by decide +kernel) rfl rfl rfl (by decide +kernel)
set_option maxRecDepth 65536 in
theorem w_c43 : (Jvm.Cond.code ({ cls := "java/util/Optional", name := "get", desc := "()Ljava/lang/Object;" } : Jvm.MethodName) jdk_32_method_5_code (1 : Nat) (Option.some (Jvm.ClassFile.FieldType.object "java/lang/Object"))).before args0 about1 = true := code_word (m := ⟨12, 3⟩) (meth := k12m3) (c := k12c3) (by decide +kernel) rfl rfl rfl (by decide +kernel)
set_option maxRecDepth 65536 in
theorem w_c44 : (Jvm.Cond.code ({ cls := "java/lang/String", name := "equals", desc := "(Ljava/lang/Object;)Z" } : Jvm.MethodName) jdk_42_method_66_code (3 : Nat) (Option.some Jvm.ClassFile.FieldType.boolean)).before args0 about1 = true := code_word (m := ⟨7, 4⟩) (meth := k7m4) (c := k7c4) (by decide +kernel) rfl rfl rfl (by decide +kernel)
set_option maxRecDepth 65536 in
theorem w_c45 : (Jvm.Cond.code ({ cls := "java/lang/StringLatin1", name := "equals", desc := "([B[B)Z" } : Jvm.MethodName) jdk_43_method_13_code (3 : Nat) (Option.some Jvm.ClassFile.FieldType.boolean)).before args0 about1 = true := code_word (m := ⟨10, 2⟩) (meth := k10m2) (c := k10c2) (by decide +kernel) rfl rfl rfl (by decide +kernel)
set_option maxRecDepth 65536 in
theorem w_c46 : (Jvm.Cond.code ({ cls := "java/lang/StringLatin1", name := "newString", desc := "([BII)Ljava/lang/String;" } : Jvm.MethodName) jdk_43_method_47_code (3 : Nat) (Option.some (Jvm.ClassFile.FieldType.object "java/lang/String"))).before args0 about1 = true := code_word (m := ⟨10, 3⟩) (meth := k10m3) (c := k10c3) (by decide +kernel) rfl rfl rfl (by decide +kernel)
def codes1 : List Jvm.Cond := [Jvm.Cond.code x code maxLocals ret, Jvm.Cond.code ({ cls := "com/example/crossgate/crossgate/AgentTokenHandleInPinLaw", name := "pick", desc := "(I)[C" } : Jvm.MethodName) method_2_code (1 : Nat) (Option.some (Jvm.ClassFile.FieldType.array Jvm.ClassFile.FieldType.char)), Jvm.Cond.code ({ cls := "java/lang/String", name := "<init>", desc := "([C)V" } : Jvm.MethodName) jdk_42_method_3_code (2 : Nat) (Option.none : Option Jvm.ClassFile.FieldType), Jvm.Cond.code ({ cls := "java/lang/String", name := "<init>", desc := "([CIILjava/lang/Void;)V" } : Jvm.MethodName) jdk_42_method_149_code (6 : Nat) (Option.none : Option Jvm.ClassFile.FieldType), Jvm.Cond.code ({ cls := "java/lang/Object", name := "<init>", desc := "()V" } : Jvm.MethodName) object_method_1_code (1 : Nat) (Option.none : Option Jvm.ClassFile.FieldType), Jvm.Cond.code ({ cls := "java/lang/StringUTF16", name := "compress", desc := "([CII)[B" } : Jvm.MethodName) jdk_52_method_16_code (6 : Nat) (Option.some (Jvm.ClassFile.FieldType.array Jvm.ClassFile.FieldType.byte)), Jvm.Cond.code ({ cls := "java/lang/StringUTF16", name := "compress", desc := "([CI[BII)I" } : Jvm.MethodName) jdk_52_method_21_code (7 : Nat) (Option.some Jvm.ClassFile.FieldType.int), Jvm.Cond.code ({ cls := "java/lang/StringUTF16", name := "coderFromArrayLen", desc := "([BI)B" } : Jvm.MethodName) jdk_52_method_15_code (2 : Nat) (Option.some Jvm.ClassFile.FieldType.byte), Jvm.Cond.code ({ cls := "com/example/crossgate/crossgate/AgentToken", name := "handleIn", desc := "(Ljava/lang/String;)Ljava/util/Optional;" } : Jvm.MethodName) prog_11_method_5_code (1 : Nat) (Option.some (Jvm.ClassFile.FieldType.object "java/util/Optional")), Jvm.Cond.code ({ cls := "java/lang/String", name := "length", desc := "()I" } : Jvm.MethodName) jdk_42_method_54_code (1 : Nat) (Option.some Jvm.ClassFile.FieldType.int), Jvm.Cond.code ({ cls := "java/lang/String", name := "coder", desc := "()B" } : Jvm.MethodName) jdk_42_method_152_code (1 : Nat) (Option.some Jvm.ClassFile.FieldType.byte), Jvm.Cond.code ({ cls := "java/lang/String", name := "charAt", desc := "(I)C" } : Jvm.MethodName) jdk_42_method_56_code (2 : Nat) (Option.some Jvm.ClassFile.FieldType.char), Jvm.Cond.code ({ cls := "java/lang/String", name := "isLatin1", desc := "()Z" } : Jvm.MethodName) jdk_42_method_154_code (1 : Nat) (Option.some Jvm.ClassFile.FieldType.boolean), Jvm.Cond.code ({ cls := "java/lang/StringLatin1", name := "charAt", desc := "([BI)C" } : Jvm.MethodName) jdk_43_method_2_code (2 : Nat) (Option.some Jvm.ClassFile.FieldType.char), Jvm.Cond.code ({ cls := "java/lang/String", name := "checkIndex", desc := "(II)V" } : Jvm.MethodName) jdk_42_method_155_code (2 : Nat) (Option.none : Option Jvm.ClassFile.FieldType), Jvm.Cond.code ({ cls := "jdk/internal/util/Preconditions", name := "checkIndex", desc := "(IILjava/util/function/BiFunction;)I" } : Jvm.MethodName) jdk_41_method_11_code (3 : Nat) (Option.some Jvm.ClassFile.FieldType.int), Jvm.Cond.code ({ cls := "java/util/Optional", name := "empty", desc := "()Ljava/util/Optional;" } : Jvm.MethodName) jdk_32_method_1_code (1 : Nat) (Option.some (Jvm.ClassFile.FieldType.object "java/util/Optional")), Jvm.Cond.code ({ cls := "java/util/Optional", name := "isPresent", desc := "()Z" } : Jvm.MethodName) jdk_32_method_6_code (1 : Nat) (Option.some Jvm.ClassFile.FieldType.boolean), Jvm.Cond.code ({ cls := "java/lang/StringUTF16", name := "toBytes", desc := "([CII)[B" } : Jvm.MethodName) jdk_52_method_14_code (5 : Nat) (Option.some (Jvm.ClassFile.FieldType.array Jvm.ClassFile.FieldType.byte)), Jvm.Cond.code ({ cls := "java/lang/StringUTF16", name := "newBytesFor", desc := "(I)[B" } : Jvm.MethodName) jdk_52_method_2_code (1 : Nat) (Option.some (Jvm.ClassFile.FieldType.array Jvm.ClassFile.FieldType.byte)), Jvm.Cond.code ({ cls := "java/lang/StringUTF16", name := "newBytesLength", desc := "(I)I" } : Jvm.MethodName) jdk_52_method_3_code (1 : Nat) (Option.some Jvm.ClassFile.FieldType.int), Jvm.Cond.code ({ cls := "java/lang/StringUTF16", name := "putChar", desc := "([BII)V" } : Jvm.MethodName) jdk_52_method_4_code (3 : Nat) (Option.none : Option Jvm.ClassFile.FieldType), Jvm.Cond.code ({ cls := "java/lang/StringUTF16", name := "getChar", desc := "([BI)C" } : Jvm.MethodName) jdk_52_method_5_code (2 : Nat) (Option.some Jvm.ClassFile.FieldType.char), Jvm.Cond.code ({ cls := "java/lang/StringUTF16", name := "charAt", desc := "([BI)C" } : Jvm.MethodName) jdk_52_method_83_code (2 : Nat) (Option.some Jvm.ClassFile.FieldType.char), Jvm.Cond.code ({ cls := "java/lang/StringUTF16", name := "checkIndex", desc := "(I[B)V" } : Jvm.MethodName) jdk_52_method_91_code (2 : Nat) (Option.none : Option Jvm.ClassFile.FieldType), Jvm.Cond.code ({ cls := "java/lang/StringUTF16", name := "length", desc := "([B)I" } : Jvm.MethodName) jdk_52_method_6_code (1 : Nat) (Option.some Jvm.ClassFile.FieldType.int), Jvm.Cond.code ({ cls := "java/lang/String", name := "substring", desc := "(II)Ljava/lang/String;" } : Jvm.MethodName) jdk_42_method_92_code (5 : Nat) (Option.some (Jvm.ClassFile.FieldType.object "java/lang/String")), Jvm.Cond.code ({ cls := "java/lang/String", name := "checkBoundsBeginEnd", desc := "(III)V" } : Jvm.MethodName) jdk_42_method_158_code (3 : Nat) (Option.none : Option Jvm.ClassFile.FieldType), Jvm.Cond.code ({ cls := "jdk/internal/util/Preconditions", name := "checkFromToIndex", desc := "(IIILjava/util/function/BiFunction;)I" } : Jvm.MethodName) jdk_41_method_12_code (4 : Nat) (Option.some Jvm.ClassFile.FieldType.int), Jvm.Cond.code ({ cls := "java/lang/StringUTF16", name := "newString", desc := "([BII)Ljava/lang/String;" } : Jvm.MethodName) jdk_52_method_69_code (5 : Nat) (Option.some (Jvm.ClassFile.FieldType.object "java/lang/String")), Jvm.Cond.code ({ cls := "java/lang/StringUTF16", name := "compress", desc := "([BII)[B" } : Jvm.MethodName) jdk_52_method_17_code (6 : Nat) (Option.some (Jvm.ClassFile.FieldType.array Jvm.ClassFile.FieldType.byte)), Jvm.Cond.code ({ cls := "java/lang/StringUTF16", name := "compress", desc := "([BI[BII)I" } : Jvm.MethodName) jdk_52_method_22_code (7 : Nat) (Option.some Jvm.ClassFile.FieldType.int), Jvm.Cond.code ({ cls := "java/lang/StringUTF16", name := "checkBoundsOffCount", desc := "(II[B)V" } : Jvm.MethodName) jdk_52_method_94_code (3 : Nat) (Option.none : Option Jvm.ClassFile.FieldType), Jvm.Cond.code ({ cls := "java/lang/String", name := "checkBoundsOffCount", desc := "(III)I" } : Jvm.MethodName) jdk_42_method_157_code (3 : Nat) (Option.some Jvm.ClassFile.FieldType.int), Jvm.Cond.code ({ cls := "jdk/internal/util/Preconditions", name := "checkFromIndexSize", desc := "(IIILjava/util/function/BiFunction;)I" } : Jvm.MethodName) jdk_41_method_13_code (4 : Nat) (Option.some Jvm.ClassFile.FieldType.int), Jvm.Cond.code ({ cls := "java/util/Arrays", name := "copyOfRange", desc := "([BII)[B" } : Jvm.MethodName) jdk_65_method_132_code (3 : Nat) (Option.some (Jvm.ClassFile.FieldType.array Jvm.ClassFile.FieldType.byte)), Jvm.Cond.code ({ cls := "java/util/Arrays", name := "copyOfRangeByte", desc := "([BII)[B" } : Jvm.MethodName) jdk_65_method_133_code (5 : Nat) (Option.some (Jvm.ClassFile.FieldType.array Jvm.ClassFile.FieldType.byte)), Jvm.Cond.code ({ cls := "java/util/Arrays", name := "checkLength", desc := "(II)V" } : Jvm.MethodName) jdk_65_method_131_code (2 : Nat) (Option.none : Option Jvm.ClassFile.FieldType), Jvm.Cond.code ({ cls := "java/lang/Math", name := "min", desc := "(II)I" } : Jvm.MethodName) jdk_29_method_69_code (2 : Nat) (Option.some Jvm.ClassFile.FieldType.int), Jvm.Cond.code ({ cls := "java/lang/String", name := "<init>", desc := "([BB)V" } : Jvm.MethodName) jdk_42_method_151_code (3 : Nat) (Option.none : Option Jvm.ClassFile.FieldType), Jvm.Cond.code ({ cls := "java/util/Optional", name := "of", desc := "(Ljava/lang/Object;)Ljava/util/Optional;" } : Jvm.MethodName) jdk_32_method_3_code (1 : Nat) (Option.some (Jvm.ClassFile.FieldType.object "java/util/Optional")), Jvm.Cond.code ({ cls := "java/util/Objects", name := "requireNonNull", desc := "(Ljava/lang/Object;)Ljava/lang/Object;" } : Jvm.MethodName) jdk_31_method_10_code (1 : Nat) (Option.some (Jvm.ClassFile.FieldType.object "java/lang/Object")), Jvm.Cond.code ({ cls := "java/util/Optional", name := "<init>", desc := "(Ljava/lang/Object;)V" } : Jvm.MethodName) jdk_32_method_2_code (2 : Nat) (Option.none : Option Jvm.ClassFile.FieldType), Jvm.Cond.code ({ cls := "java/util/Optional", name := "get", desc := "()Ljava/lang/Object;" } : Jvm.MethodName) jdk_32_method_5_code (1 : Nat) (Option.some (Jvm.ClassFile.FieldType.object "java/lang/Object")), Jvm.Cond.code ({ cls := "java/lang/String", name := "equals", desc := "(Ljava/lang/Object;)Z" } : Jvm.MethodName) jdk_42_method_66_code (3 : Nat) (Option.some Jvm.ClassFile.FieldType.boolean), Jvm.Cond.code ({ cls := "java/lang/StringLatin1", name := "equals", desc := "([B[B)Z" } : Jvm.MethodName) jdk_43_method_13_code (3 : Nat) (Option.some Jvm.ClassFile.FieldType.boolean), Jvm.Cond.code ({ cls := "java/lang/StringLatin1", name := "newString", desc := "([BII)Ljava/lang/String;" } : Jvm.MethodName) jdk_43_method_47_code (3 : Nat) (Option.some (Jvm.ClassFile.FieldType.object "java/lang/String"))]
set_option maxRecDepth 65536 in
theorem codes_eq : words1.filter isCode = codes1 := rfl
theorem w_codes : ∀ c ∈ words1.filter isCode, c.before args0 about1 = true := by
  rw [codes_eq]
  intro c hc
  simp only [codes1, List.mem_cons, List.not_mem_nil, or_false] at hc
  rcases hc with rfl | rfl | rfl | rfl | rfl | rfl | rfl | rfl | rfl | rfl | rfl | rfl | rfl | rfl | rfl | rfl | rfl | rfl | rfl | rfl | rfl | rfl | rfl | rfl | rfl | rfl | rfl | rfl | rfl | rfl | rfl | rfl | rfl | rfl | rfl | rfl | rfl | rfl | rfl | rfl | rfl | rfl | rfl | rfl | rfl | rfl | rfl
  · exact w_c0
  · exact w_c1
  · exact w_c2
  · exact w_c3
  · exact w_c4
  · exact w_c5
  · exact w_c6
  · exact w_c7
  · exact w_c8
  · exact w_c9
  · exact w_c10
  · exact w_c11
  · exact w_c12
  · exact w_c13
  · exact w_c14
  · exact w_c15
  · exact w_c16
  · exact w_c17
  · exact w_c18
  · exact w_c19
  · exact w_c20
  · exact w_c21
  · exact w_c22
  · exact w_c23
  · exact w_c24
  · exact w_c25
  · exact w_c26
  · exact w_c27
  · exact w_c28
  · exact w_c29
  · exact w_c30
  · exact w_c31
  · exact w_c32
  · exact w_c33
  · exact w_c34
  · exact w_c35
  · exact w_c36
  · exact w_c37
  · exact w_c38
  · exact w_c39
  · exact w_c40
  · exact w_c41
  · exact w_c42
  · exact w_c43
  · exact w_c44
  · exact w_c45
  · exact w_c46
set_option maxRecDepth 65536 in
theorem w_t1 : (words1.take 24).all (fun c => isCode c || c.before args0 about1) = true := by decide +kernel
set_option maxRecDepth 65536 in
theorem w_t2 : ((words1.drop 24).take 24).all (fun c => isCode c || c.before args0 about1) = true := by decide +kernel
set_option maxRecDepth 65536 in
theorem w_t3 : (((words1.drop 24).drop 24).take 24).all (fun c => isCode c || c.before args0 about1) = true := by decide +kernel
set_option maxRecDepth 65536 in
theorem w_t4 : ((((words1.drop 24).drop 24).drop 24).take 24).all (fun c => isCode c || c.before args0 about1) = true := by decide +kernel
set_option maxRecDepth 65536 in
theorem w_t5 : (((((words1.drop 24).drop 24).drop 24).drop 24).take 24).all (fun c => isCode c || c.before args0 about1) = true := by decide +kernel
set_option maxRecDepth 65536 in
theorem w_t6 : ((((((words1.drop 24).drop 24).drop 24).drop 24).drop 24).take 24).all (fun c => isCode c || c.before args0 about1) = true := by decide +kernel
set_option maxRecDepth 65536 in
theorem w_t7 : (((((((words1.drop 24).drop 24).drop 24).drop 24).drop 24).drop 24).take 24).all (fun c => isCode c || c.before args0 about1) = true := by decide +kernel
set_option maxRecDepth 65536 in
theorem w_t8 : ((((((((words1.drop 24).drop 24).drop 24).drop 24).drop 24).drop 24).drop 24).take 24).all (fun c => isCode c || c.before args0 about1) = true := by decide +kernel
set_option maxRecDepth 65536 in
theorem w_t9 : ((((((((words1.drop 24).drop 24).drop 24).drop 24).drop 24).drop 24).drop 24).drop 24).all (fun c => isCode c || c.before args0 about1) = true := by decide +kernel
theorem w_tables : (allAtoms (Jvm.Cond.code x code maxLocals ret :: tables_1)).before args0 about1 = true := by
  rw [allAtoms_all]
  show words1.all (fun c => c.before args0 about1) = true
  refine all_split ?_ w_codes
  rw [← List.take_append_drop 24 words1, List.all_append, w_t1, ← List.take_append_drop 24 (words1.drop 24), List.all_append, w_t2, ← List.take_append_drop 24 ((words1.drop 24).drop 24), List.all_append, w_t3, ← List.take_append_drop 24 (((words1.drop 24).drop 24).drop 24), List.all_append, w_t4, ← List.take_append_drop 24 ((((words1.drop 24).drop 24).drop 24).drop 24), List.all_append, w_t5, ← List.take_append_drop 24 (((((words1.drop 24).drop 24).drop 24).drop 24).drop 24), List.all_append, w_t6, ← List.take_append_drop 24 ((((((words1.drop 24).drop 24).drop 24).drop 24).drop 24).drop 24), List.all_append, w_t7, ← List.take_append_drop 24 (((((((words1.drop 24).drop 24).drop 24).drop 24).drop 24).drop 24).drop 24), List.all_append, w_t8, w_t9]
  rfl
set_option maxRecDepth 65536 in
theorem w_rest : rest_1_c.before args0 about1 = true := by decide +kernel
set_option maxRecDepth 65536 in
theorem w_case : (Jvm.Cond.and given_1 narrow_1).before args0 about1 = true := by decide +kernel
set_option maxRecDepth 65536 in
theorem w_consts : constsHeld consts_1 about1 := Jvm.Lit.constsHeldB_iff.mp (by decide +kernel)
theorem w_applies : (headSpec (Jvm.Cond.code x code maxLocals ret :: tables_1) room_1).applies x e0.platform about1 = true :=
  (Spec.applies_iff w_frames).mpr ⟨w_running, w_runnable, w_alone, w_named, w_hears, w_ripe, w_room, w_tables⟩
theorem atStart : AtStart classFile x code maxLocals ret World_1 tables_1 room_1 Calls_1 rest_1 Pre_1 launch0 p0 e0 about1 theMethod args0 below0 :=
  ⟨lists_1, trivial, launch0.admits_env _ _ _, launch0.least_env, fairChoices_fair.cas, fairChoices_fair.clock, w_frames, w_args, w_heap, w_applies, ⟨w_consts, trivial⟩, w_rest, w_case⟩
end start1
theorem witness_1 : WitnessClaimed_1 := ⟨start1.p0, start1.e0, start1.about1, start1.theMethod, start1.args0, start1.below0, start1.atStart⟩
end Jvm.Pilot.@@N@@
