import JvmDerived
import JvmDerived.Pilot.@@N@@Statement
import JvmDerived.Pilot.@@N@@Code
set_option linter.unusedVariables false
set_option linter.unusedSimpArgs false
namespace Jvm.Pilot.@@N@@.W
open Jvm Jvm.ClassFile Sem Op Lib Jvm.Free Jvm.Stand Jvm.LawKit Jvm.RoadKit
/-! own kit: a body's walk in one pass, backwards from its end ('Gl': from here the body comes to its end and there P holds) -/
section Walk
variable {p : Program} {l : Launch} {e : Env} {R : Room} {s : State} {m : MethodId} {args : Array Value} {below : List Frame} {meth : Method} {c : Code} {T T' : State} {locs : List Loc} {cells slots : Nat} {P : Option Value → Heap → List Loc → Prop} {C N : Nat} {Ls : Array Slot} {S : List Value} {pc pc' pc'' : Nat} {g : JFrame}
def Gl (p : Program) (e : Env) (below : List Frame) (s : State) (P : Option Value → Heap → List Loc → Prop) (C N : Nat) (T : State) (g : JFrame) : Prop :=
  ∃ (s₂ : State) (o : Outcome), Steps p.tables e below (T.setTop g) s₂ ∧ s₂.status = .running ∧ Ended s₂ below o ∧ ∃ v L, o = .returned v ∧ P v s₂.heap L ∧ FrameEnd s o s₂ L C N
theorem s1 (g' : JFrame) (h : ∀ t, Steps p.tables e below (T.setTop g') t → Steps p.tables e below (T.setTop g) t) (K : Gl p e below s P C N T g') : Gl p e below s P C N T g := by
  obtain ⟨s₂, o, h1, h2⟩ := K; exact ⟨s₂, o, h _ h1, h2⟩
theorem s2 (g' : JFrame) (h : ∀ t, Steps p.tables e below (T'.setTop g') t → Steps p.tables e below (T.setTop g) t) (K : Gl p e below s P C N T' g') : Gl p e below s P C N T g := by
  obtain ⟨s₂, o, h1, h2⟩ := K; exact ⟨s₂, o, h _ h1, h2⟩
theorem s3 (g' : JFrame) (h : Steps p.tables e below (T.setTop g) (T'.setTop g')) (K : Gl p e below s P C N T' g') : Gl p e below s P C N T g := by
  obtain ⟨s₂, o, h1, h2⟩ := K; exact ⟨s₂, o, h.trans h1, h2⟩
theorem cast {g' : JFrame} (q : g = g') (K : Gl p e below s P C N T g') : Gl p e below s P C N T g := q ▸ K
theorem fin (X : Stand p l e R s m args below meth c T locs cells slots) {v : Option Value} (hv : meth.sig.returnType = none → v = none) (hlk : meth.locks = false)
    (hs : ∀ fs, (∀ (f : JFrame) (acts : List Action), f.method = m → f.locked = none → f.entered = [] → (doReturn e (T.setTop f) acts v).1 = T.setFrames fs) → Steps p.tables e below (T.setTop g) (T.setFrames fs))
    (hP : P v T.heap locs) (hC : cells ≤ C) (hN : slots ≤ N) : Gl p e below s P C N T g := by
  obtain ⟨fs, hr, hrun, hended, hW, hsame⟩ := X.leave hv hlk
  exact ⟨_, _, hs fs hr, hrun, hended, _, _, rfl, hP, ⟨_, rfl⟩, hW, hsame.mono hC hN⟩
theorem retZ (X : Stand p l e R s m args below meth c T locs cells slots) (hx : p.tables.exec = Jvm.exec) (hlk : meth.locks = false) {z z' : Int32} {t : FieldType} (hret : meth.sig.returnType = some t) (ht : t = .boolean ∨ t = .byte ∨ t = .char ∨ t = .short)
    (hd : decode c.code pc = .ok (.ireturn, 1)) (hz : nar t z = z') (hP : P (some (.int z')) T.heap locs) (hC : cells ≤ C) (hN : slots ≤ N) : Gl p e below s P C N T (mkF m pc Ls (.int z :: S)) :=
  fin X (v := some (.int z')) (fun h => by rw [hret] at h; cases h) hlk (fun fs hr => by subst hz; exact RoadKit.retN X hx hret ht hd hr) hP hC hN
theorem retI (X : Stand p l e R s m args below meth c T locs cells slots) (hx : p.tables.exec = Jvm.exec) (hlk : meth.locks = false) {z : Int32} (hret : meth.sig.returnType = some .int)
    (hd : decode c.code pc = .ok (.ireturn, 1)) (hP : P (some (.int z)) T.heap locs) (hC : cells ≤ C) (hN : slots ≤ N) : Gl p e below s P C N T (mkF m pc Ls (.int z :: S)) :=
  fin X (v := some (.int z)) (fun h => by rw [hret] at h; cases h) hlk (fun fs hr => retOut X hx hret rfl (Or.inl ⟨rfl, Or.inl rfl, _, rfl⟩) hd hr) hP hC hN
theorem retL (X : Stand p l e R s m args below meth c T locs cells slots) (hx : p.tables.exec = Jvm.exec) (hlk : meth.locks = false) {z : Int64} (hret : meth.sig.returnType = some .long)
    (hd : decode c.code pc = .ok (.lreturn, 1)) (hP : P (some (.long z)) T.heap locs) (hC : cells ≤ C) (hN : slots ≤ N) : Gl p e below s P C N T (mkF m pc Ls (.long z :: S)) :=
  fin X (v := some (.long z)) (fun h => by rw [hret] at h; cases h) hlk (fun fs hr => retOut X hx hret rfl (Or.inr (Or.inl ⟨rfl, rfl, _, rfl⟩)) hd hr) hP hC hN
theorem retA (X : Stand p l e R s m args below meth c T locs cells slots) (hx : p.tables.exec = Jvm.exec) (hlk : meth.locks = false) {w : Value} {t : FieldType} (hret : meth.sig.returnType = some t) (ht : t.isReference = true) (hw : w.isRef = true) (hn : narrow t w = w)
    (hd : decode c.code pc = .ok (.areturn, 1)) (hP : P (some w) T.heap locs) (hC : cells ≤ C) (hN : slots ≤ N) : Gl p e below s P C N T (mkF m pc Ls (w :: S)) :=
  fin X (v := some w) (fun h => by rw [hret] at h; cases h) hlk (fun fs hr => retOut X hx hret hn (Or.inr (Or.inr (Or.inr (Or.inr ⟨rfl, ht, hw⟩)))) hd hr) hP hC hN
theorem ret0 (X : Stand p l e R s m args below meth c T locs cells slots) (hx : p.tables.exec = Jvm.exec) (hlk : meth.locks = false) (hret : meth.sig.returnType = none)
    (hd : decode c.code pc = .ok (.return_, 1)) (hP : P none T.heap locs) (hC : cells ≤ C) (hN : slots ≤ N) : Gl p e below s P C N T (mkF m pc Ls []) :=
  fin X (v := none) (fun _ => rfl) hlk (fun fs hr => X.returnOut hx hret hd hr) hP hC hN
/-! the branches -/
def cY : ClassFile.Cond → Int32 → Int32 → Prop
  | .eq, x, y => x = y
  | .ne, x, y => ¬ x = y
  | .lt, x, y => x < y
  | .ge, x, y => ¬ x < y
  | .gt, x, y => y < x
  | .le, x, y => ¬ y < x
def cN : ClassFile.Cond → Int32 → Int32 → Prop
  | .eq, x, y => ¬ x = y
  | .ne, x, y => x = y
  | .lt, x, y => ¬ x < y
  | .ge, x, y => x < y
  | .gt, x, y => ¬ y < x
  | .le, x, y => y < x
theorem cOr (cd : ClassFile.Cond) (x y : Int32) : (cY cd x y ∧ if_icmp.holds cd x y = true) ∨ (cN cd x y ∧ if_icmp.holds cd x y = false) := by
  cases cd with
  | eq => by_cases h : x = y; exact Or.inl ⟨h, (teq h).1⟩; exact Or.inr ⟨h, (feq h).1⟩
  | ne => by_cases h : x = y; exact Or.inr ⟨h, (teq h).2⟩; exact Or.inl ⟨h, (feq h).2⟩
  | lt => by_cases h : x < y; exact Or.inl ⟨h, (tlt h).1⟩; exact Or.inr ⟨h, (flt h).1⟩
  | ge => by_cases h : x < y; exact Or.inr ⟨h, (tlt h).2.1⟩; exact Or.inl ⟨h, (flt h).2.1⟩
  | gt => by_cases h : y < x; exact Or.inl ⟨h, (tlt h).2.2.1⟩; exact Or.inr ⟨h, (flt h).2.2.1⟩
  | le => by_cases h : y < x; exact Or.inr ⟨h, (tlt h).2.2.2⟩; exact Or.inl ⟨h, (flt h).2.2.2⟩
def lY : ClassFile.Cond → Int64 → Int64 → Prop
  | .eq, x, y => x = y
  | .ne, x, y => ¬ x = y
  | .lt, x, y => x < y
  | .ge, x, y => ¬ x < y
  | .gt, x, y => y < x
  | .le, x, y => ¬ y < x
def lN : ClassFile.Cond → Int64 → Int64 → Prop
  | .eq, x, y => ¬ x = y
  | .ne, x, y => x = y
  | .lt, x, y => ¬ x < y
  | .ge, x, y => x < y
  | .gt, x, y => ¬ y < x
  | .le, x, y => y < x
theorem lYc {cd : ClassFile.Cond} {x y : Int64} (h : cY cd (lcmpW x y) 0) : lY cd x y := by
  rw [lcW] at h
  cases cd with
  | eq => exact (lc_eq x y).mp h
  | ne => exact fun q => h ((lc_eq x y).mpr q)
  | lt => exact (lc_lt x y).mp h
  | ge => exact fun q => h ((lc_lt x y).mpr q)
  | gt => exact (lc_gt x y).mp h
  | le => exact fun q => h ((lc_gt x y).mpr q)
theorem lNc {cd : ClassFile.Cond} {x y : Int64} (h : cN cd (lcmpW x y) 0) : lN cd x y := by
  rw [lcW] at h
  cases cd with
  | eq => exact fun q => h ((lc_eq x y).mpr q)
  | ne => exact (lc_eq x y).mp h
  | lt => exact fun q => h ((lc_lt x y).mpr q)
  | ge => exact (lc_lt x y).mp h
  | gt => exact fun q => h ((lc_gt x y).mpr q)
  | le => exact (lc_gt x y).mp h
theorem icmp (X : Stand p l e R s m args below meth c T locs cells slots) (hx : p.tables.exec = Jvm.exec) {cd : ClassFile.Cond} {x y : Int32} {o : Int} (hd : decode c.code pc = .ok (.if_icmp cd o, 3)) (ho : 0 ≤ (pc : Int) + o) (hp : ((pc : Int) + o).toNat = pc') (hq : pc + 3 = pc'')
    (ky : cY cd x y → Gl p e below s P C N T (mkF m pc' Ls S)) (kn : cN cd x y → Gl p e below s P C N T (mkF m pc'' Ls S)) : Gl p e below s P C N T (mkF m pc Ls (.int y :: .int x :: S)) := by
  subst hq
  rcases cOr cd x y with ⟨h1, h2⟩ | ⟨h1, h2⟩
  · exact s1 _ (fun t k => XS.icmpYes X.here hx rfl (pc0 := pc) (pc' := pc') rfl hd rfl h2 ho hp k) (ky h1)
  · exact s1 _ (fun t k => XS.icmpNo X.here hx rfl hd rfl h2 k) (kn h1)
theorem ifc (X : Stand p l e R s m args below meth c T locs cells slots) (hx : p.tables.exec = Jvm.exec) {cd : ClassFile.Cond} {x : Int32} {o : Int} (hd : decode c.code pc = .ok (.ifCond cd o, 3)) (ho : 0 ≤ (pc : Int) + o) (hp : ((pc : Int) + o).toNat = pc') (hq : pc + 3 = pc'')
    (ky : cY cd x 0 → Gl p e below s P C N T (mkF m pc' Ls S)) (kn : cN cd x 0 → Gl p e below s P C N T (mkF m pc'' Ls S)) : Gl p e below s P C N T (mkF m pc Ls (.int x :: S)) := by
  subst hq
  rcases cOr cd x 0 with ⟨h1, h2⟩ | ⟨h1, h2⟩
  · exact s1 _ (fun t k => XS.ifYes X.here hx rfl (pc0 := pc) (pc' := pc') rfl hd rfl ((if0 _ _).trans h2) ho hp k) (ky h1)
  · exact s1 _ (fun t k => XS.ifNo X.here hx rfl hd rfl ((if0 _ _).trans h2) k) (kn h1)
theorem lif (X : Stand p l e R s m args below meth c T locs cells slots) (hx : p.tables.exec = Jvm.exec) {cd : ClassFile.Cond} {x y : Int64} {o : Int} (hd1 : decode c.code pc = .ok (.lcmp, 1)) {pc1 : Nat} (h1 : pc + 1 = pc1) (hd : decode c.code pc1 = .ok (.ifCond cd o, 3)) (ho : 0 ≤ (pc1 : Int) + o) (hp : ((pc1 : Int) + o).toNat = pc') (hq : pc1 + 3 = pc'')
    (ky : lY cd x y → Gl p e below s P C N T (mkF m pc' Ls S)) (kn : lN cd x y → Gl p e below s P C N T (mkF m pc'' Ls S)) : Gl p e below s P C N T (mkF m pc Ls (.long y :: .long x :: S)) := by
  subst h1
  exact s1 (mkF m (pc + 1) Ls (.int (lcmpW x y) :: S)) (fun t k => XS.lcmp X.here hx rfl hd1 rfl k) (ifc X hx hd ho hp hq (fun h => ky (lYc h)) (fun h => kn (lNc h)))
end Walk
/-! arrays of ints and of longs, by what each place holds -/
section Arrays
variable {Z : State} {h h' : Heap} {a b : Addr} {ty : FieldType} {n : Nat} {f : Nat → Int32} {q : Nat → Int64}
def up {α : Type} (f : Nat → α) (j : Nat) (v : α) : Nat → α := fun k => if k = j then v else f k
theorem up_same {α : Type} (f : Nat → α) (j : Nat) (v : α) : up f j v j = v := if_pos rfl
theorem up_other {α : Type} (f : Nat → α) {j k : Nat} (v : α) (h : ¬ k = j) : up f j v k = f k := if_neg h
def AI (Z : State) (h : Heap) (a : Addr) (ty : FieldType) (n : Nat) (f : Nat → Int32) : Prop := ∃ c : Cell, Arr Z h a c ty ∧ c.slots.size = n ∧ ∀ k, k < n → c.slots[k]? = some (.int (f k))
def AJ (Z : State) (h : Heap) (a : Addr) (n : Nat) (f : Nat → Int64) : Prop := ∃ c : Cell, Arr Z h a c .long ∧ c.slots.size = n ∧ ∀ k, k < n → c.slots[k]? = some (.long (f k))
theorem AI.lt (F : AI Z h a ty n f) : a < h.size := by obtain ⟨c, A, -⟩ := F; exact A.lt
theorem AJ.lt (F : AJ Z h a n q) : a < h.size := by obtain ⟨c, A, -⟩ := F; exact A.lt
theorem AI.ext (F : AI Z h a ty n f) (E : Ext h h') : AI Z h' a ty n f := by obtain ⟨c, A, r⟩ := F; exact ⟨c, A.ext E, r⟩
theorem AJ.ext (F : AJ Z h a n q) (E : Ext h h') : AJ Z h' a n q := by obtain ⟨c, A, r⟩ := F; exact ⟨c, A.ext E, r⟩
theorem AI.other {sl : Nat} {v : Value} (F : AI Z h b ty n f) (W : Wr h h' a sl v) (e : b ≠ a) : AI Z h' b ty n f := by obtain ⟨c, A, r⟩ := F; exact ⟨c, A.other W e, r⟩
theorem AJ.other {sl : Nat} {v : Value} (F : AJ Z h b n q) (W : Wr h h' a sl v) (e : b ≠ a) : AJ Z h' b n q := by obtain ⟨c, A, r⟩ := F; exact ⟨c, A.other W e, r⟩
theorem AI.keep {ws : List Addr} (F : AI Z h a ty n f) (K : Keep h h' ws) (e : a ∉ ws) : AI Z h' a ty n f := by obtain ⟨c, A, r⟩ := F; exact ⟨c, ⟨K.2.1 a c A.1 e, A.2⟩, r⟩
theorem AJ.keep {ws : List Addr} (F : AJ Z h a n q) (K : Keep h h' ws) (e : a ∉ ws) : AJ Z h' a n q := by obtain ⟨c, A, r⟩ := F; exact ⟨c, ⟨K.2.1 a c A.1 e, A.2⟩, r⟩
theorem slots_set {c : Cell} {j k : Nat} {v : Value} (hj : j < c.slots.size) : (c.setSlot j v).slots[k]? = if k = j then some v else c.slots[k]? := by
  by_cases e : k = j
  · subst e; simp [Cell.setSlot, hj]
  · simp only [Cell.setSlot, if_neg e]; exact Array.getElem?_setIfInBounds_ne (Ne.symm e)
theorem AI.set {j : Nat} {v : Int32} (F : AI Z h a ty n f) (W : Wr h h' a j (.int v)) (hj : j < n) : AI Z h' a ty n (up f j v) := by
  obtain ⟨c, A, r1, r2⟩ := F
  refine ⟨_, A.same W, by rw [sz_set]; exact r1, fun k hk => ?_⟩
  rw [slots_set (by omega)]
  by_cases e : k = j
  · rw [if_pos e, e, up_same]
  · rw [if_neg e, up_other _ _ e]; exact r2 k hk
theorem AJ.set {j : Nat} {v : Int64} (F : AJ Z h a n q) (W : Wr h h' a j (.long v)) (hj : j < n) : AJ Z h' a n (up q j v) := by
  obtain ⟨c, A, r1, r2⟩ := F
  refine ⟨_, A.same W, by rw [sz_set]; exact r1, fun k hk => ?_⟩
  rw [slots_set (by omega)]
  by_cases e : k = j
  · rw [if_pos e, e, up_same]
  · rw [if_neg e, up_other _ _ e]; exact r2 k hk
theorem clamp {z : Int32} (hz : z.toInt = n) : z.toNatClampNeg = n := by simp only [Int32.toNatClampNeg]; omega
theorem AI.new {k : ClassId} {z : Int32} (A : Arr Z h a (newA k ty z) ty) (hz : z.toInt = n) (hd : defaultValue ty = .int 0) : AI Z h a ty n (fun _ => 0) :=
  ⟨_, A, by rw [sz_new]; exact clamp hz, fun i hi => by rw [← clamp hz] at hi; simp [newA, hi, hd]⟩
theorem AJ.new {k : ClassId} {z : Int32} (A : Arr Z h a (newA k .long z) .long) (hz : z.toInt = n) : AJ Z h a n (fun _ => 0) :=
  ⟨_, A, by rw [sz_new]; exact clamp hz, fun i hi => by rw [← clamp hz] at hi; simp [newA, hi, defaultValue]⟩
theorem AI.congr {f' : Nat → Int32} (F : AI Z h a ty n f) (e : ∀ k, k < n → f' k = f k) : AI Z h a ty n f' := by obtain ⟨c, A, r1, r2⟩ := F; exact ⟨c, A, r1, fun k hk => by rw [e k hk]; exact r2 k hk⟩
theorem AJ.congr {f' : Nat → Int64} (F : AJ Z h a n q) (e : ∀ k, k < n → f' k = q k) : AJ Z h a n f' := by obtain ⟨c, A, r1, r2⟩ := F; exact ⟨c, A, r1, fun k hk => by rw [e k hk]; exact r2 k hk⟩
theorem inb {j : Int32} {k sz : Nat} (hj : j.toInt = k) (hk : k < sz) : ¬ (j < 0 ∨ sz ≤ j.toNatClampNeg) := by
  rw [clamp hj, Int32.lt_iff_toInt_lt, hj, show (0 : Int32).toInt = 0 from rfl]; omega
theorem szI {z : Int32} (hz : z.toInt = n) : Nat.toInt32 n = z := by
  rw [← Int32.toInt_inj, len_toInt (by have := z.toInt_lt; omega), hz]
end Arrays
section Steps
variable {p : Program} {l : Launch} {e : Env} {R : Room} {s : State} {m : MethodId} {args : Array Value} {below : List Frame} {meth : Method} {c : Code} {T T' : State} {locs : List Loc} {cells slots : Nat} {P : Option Value → Heap → List Loc → Prop} {C N : Nat} {Ls : Array Slot} {S : List Value} {pc pc' : Nat} {Z : State} {h : Heap} {a : Addr} {n n0 : Nat} {f : Nat → Int32} {q : Nat → Int64} {a0 : Array Value} {ty : FieldType}
theorem getf (X : Stand p l e R s m args below meth c T locs cells slots) (hx : p.tables.exec = Jvm.exec) (hZ : Z.Warmed39 s.vm) {own R0 O n d host : String} {index : Nat} (hown : s.vm.findClass own = some m.cls) (w : (Cond.fieldLink own index R0 n d).before a0 Z = true ∨ (Cond.fieldLinkNest own index R0 n d host).before a0 Z = true) (via : Via Z R0 O n d)
    (eT : T.heap = h) {v : Value} (F : Fld Z h a O n d v) (hd : decode c.code pc = .ok (.getfield index, 3)) (hq : pc + 3 = pc') (K : ∀ T', Stand p l e R s m args below meth c T' locs cells slots → T'.heap = h → Gl p e below s P C N T' (mkF m pc' Ls (v :: S))) : Gl p e below s P C N T (mkF m pc Ls (.ref a :: S)) := by
  subst hq
  obtain ⟨T', X', e', st⟩ := getF X hx hZ hown w via eT F (g := mkF m pc Ls (.ref a :: S)) rfl rfl hd
  exact s2 _ st (K T' X' e')
theorem gets (X : Stand p l e R s m args below meth c T locs cells slots) (hx : p.tables.exec = Jvm.exec) (hZ : Z.Warmed39 s.vm) {own R0 O n d host : String} {index : Nat} (hown : s.vm.findClass own = some m.cls) (w : (Cond.fieldLink own index R0 n d).before a0 Z = true ∨ (Cond.fieldLinkNest own index R0 n d host).before a0 Z = true) (via : Via Z R0 O n d)
    (eT : T.heap = h) {v : Value} (F : Sta Z h O n d v) (hd : decode c.code pc = .ok (.getstatic index, 3)) (hq : pc + 3 = pc') (K : ∀ T', Stand p l e R s m args below meth c T' locs cells slots → T'.heap = h → Gl p e below s P C N T' (mkF m pc' Ls (v :: S))) : Gl p e below s P C N T (mkF m pc Ls S) := by
  subst hq
  obtain ⟨T', X', e', st⟩ := getS2 X hx hZ hown w via eT F (g := mkF m pc Ls S) rfl hd
  exact s2 _ st (K T' X' e')
theorem putf (X : Stand p l e R s m args below meth c T locs cells slots) (hx : p.tables.exec = Jvm.exec) (hZ : Z.Warmed39 s.vm) {own R0 O n d host Cl : String} {index kk : Nat} (hown : s.vm.findClass own = some m.cls) (w : (Cond.fieldLink own index R0 n d).before a0 Z = true ∨ (Cond.fieldLinkNest own index R0 n d host).before a0 Z = true) (via : Via Z R0 O n d)
    (eT : T.heap = h) {v old : Value} (F : Fld Z h a O n d old) (E : Exa Z h a Cl) (L : (Cond.lays Cl O n d).before a0 Z = true ∨ ((Cond.laysFinal Cl O n d).before a0 Z = true ∧ own = O ∧ meth.name = "<init>")) (wi : (Cond.instantiable Cl kk).before a0 Z = true)
    (hty : parseFieldDescriptor d = some ty) (hn : narrow ty v = v) (hf : fits ty v = true) (N0 : Fr n0 locs) (ga : n0 ≤ a) (hd : decode c.code pc = .ok (.putfield index, 3)) (hq : pc + 3 = pc')
    (K : ∀ T' h' L', Stand p l e R s m args below meth c T' L' cells slots → T'.heap = h' → Wr h h' a (RoadKit.slotOf Z O n d) v → Fld Z h' a O n d v → Fr n0 L' → Gl p e below s P C N T' (mkF m pc' Ls S)) : Gl p e below s P C N T (mkF m pc Ls (v :: .ref a :: S)) := by
  subst hq
  obtain ⟨T', h', X', e', W, st⟩ := putF X hx hZ hown w via eT F E L wi hty hn hf (g := mkF m pc Ls (v :: .ref a :: S)) rfl rfl hd
  exact s2 _ st (K T' h' _ X' e' W (F.same W) (Fr.snoc X' N0 ga))
theorem newo (X : Stand p l e R s m args below meth c T locs cells slots) (hx : p.tables.exec = Jvm.exec) (hZ : Z.Warmed39 s.vm) {own Cl : String} {index n : Nat} (hown : s.vm.findClass own = some m.cls) (w : (Cond.classLink own index Cl).before a0 Z = true) (wi : (Cond.instantiable Cl n).before a0 Z = true) (wz : (Cond.initialized Cl).before a0 Z = true) (eT : T.heap = h)
    (hd : decode c.code pc = .ok (.new index, 3)) (hc : cells + 1 ≤ R.cells) (hl : slots + n ≤ R.slots) (hq : pc + 3 = pc')
    (K : ∀ T' h' a, Stand p l e R s m args below meth c T' locs (cells + 1) (slots + n) → T'.heap = h' → Ext h h' → a = h.size → Exa Z h' a Cl → (∀ {O nm d : String} {ty : FieldType}, Laid Z a0 Cl O nm d → parseFieldDescriptor d = some ty → Fld Z h' a O nm d (defaultValue ty)) → Gl p e below s P C N T' (mkF m pc' Ls (.ref a :: S))) : Gl p e below s P C N T (mkF m pc Ls S) := by
  subst hq
  obtain ⟨T', h', X', e', E, A, D, -, st⟩ := newO X hx hZ hown w wi wz eT (g := mkF m pc Ls S) rfl hd hc hl
  exact s2 _ st (K T' h' _ X' e' E rfl A D)
theorem newi (X : Stand p l e R s m args below meth c T locs cells slots) (hx : p.tables.exec = Jvm.exec) (hZ : Z.Warmed39 s.vm) {aty : ArrayType} (w : (Cond.arrayClass ty).before a0 Z = true) (hty : newarray.typeOf aty = ty) (hdv : defaultValue ty = .int 0) (eT : T.heap = h) {z : Int32} (hd : decode c.code pc = .ok (.newarray aty, 2)) (hz : z.toInt = n) {cap : Nat} (hcap : n ≤ cap) (hb : cap * 8 ≤ 536870912) (hc : cells + 1 ≤ R.cells) (hl : slots + cap ≤ R.slots) (hq : pc + 2 = pc')
    (K : ∀ T' h' a, Stand p l e R s m args below meth c T' locs (cells + 1) (slots + cap) → T'.heap = h' → Ext h h' → a = h.size → AI Z h' a ty n (fun _ => 0) → Gl p e below s P C N T' (mkF m pc' Ls (.ref a :: S))) : Gl p e below s P C N T (mkF m pc Ls (.int z :: S)) := by
  subst hq hty
  obtain ⟨T', h', k, X', e', E, A, st⟩ := newP X hx hZ w eT (g := mkF m pc Ls (.int z :: S)) rfl hd rfl (by rw [Int32.lt_iff_toInt_lt, hz, show (0 : Int32).toInt = 0 from rfl]; omega) (cap := cap) (by rw [clamp hz]; exact hcap) hb hc hl
  exact s2 _ st (K T' h' _ X' e' E rfl (AI.new A hz hdv))
theorem newj (X : Stand p l e R s m args below meth c T locs cells slots) (hx : p.tables.exec = Jvm.exec) (hZ : Z.Warmed39 s.vm) (w : (Cond.arrayClass .long).before a0 Z = true) (eT : T.heap = h) {z : Int32} (hd : decode c.code pc = .ok (.newarray .long, 2)) (hz : z.toInt = n) {cap : Nat} (hcap : n ≤ cap) (hb : cap * 8 ≤ 536870912) (hc : cells + 1 ≤ R.cells) (hl : slots + cap ≤ R.slots) (hq : pc + 2 = pc')
    (K : ∀ T' h' a, Stand p l e R s m args below meth c T' locs (cells + 1) (slots + cap) → T'.heap = h' → Ext h h' → a = h.size → AJ Z h' a n (fun _ => 0) → Gl p e below s P C N T' (mkF m pc' Ls (.ref a :: S))) : Gl p e below s P C N T (mkF m pc Ls (.int z :: S)) := by
  subst hq
  obtain ⟨T', h', k, X', e', E, A, st⟩ := newP X hx hZ (aty := .long) w eT (g := mkF m pc Ls (.int z :: S)) rfl hd rfl (by rw [Int32.lt_iff_toInt_lt, hz, show (0 : Int32).toInt = 0 from rfl]; omega) (cap := cap) (by rw [clamp hz]; exact hcap) hb hc hl
  exact s2 _ st (K T' h' _ X' e' E rfl (AJ.new A hz))
theorem ldi (X : Stand p l e R s m args below meth c T locs cells slots) (hx : p.tables.exec = Jvm.exec) (hZ : Z.Warmed39 s.vm) (eT : T.heap = h) (F : AI Z h a .int n f) {j : Int32} (k : Nat) (hj : j.toInt = k) (hk : k < n) (hd : decode c.code pc = .ok (.iaload, 1)) (hq : pc + 1 = pc')
    (K : Gl p e below s P C N T (mkF m pc' Ls (.int (f k) :: S))) : Gl p e below s P C N T (mkF m pc Ls (.int j :: .ref a :: S)) := by
  subst hq
  obtain ⟨cl, A, r1, r2⟩ := F
  exact s1 _ (fun t q => X.iaload hx (v := .int (f k)) (by rw [eT]; exact A.1) (State.isArrayOf_alike hZ.alike A.2.1) A.2.2 (inb hj (by omega)) (by rw [clamp hj]; exact r2 k hk) (g := mkF m pc Ls (.int j :: .ref a :: S)) rfl rfl hd t q) K
theorem ldz (X : Stand p l e R s m args below meth c T locs cells slots) (hx : p.tables.exec = Jvm.exec) (hZ : Z.Warmed39 s.vm) (eT : T.heap = h) (F : AI Z h a .boolean n f) {j : Int32} (k : Nat) (hj : j.toInt = k) (hk : k < n) (hd : decode c.code pc = .ok (.baload, 1)) (hq : pc + 1 = pc')
    (K : Gl p e below s P C N T (mkF m pc' Ls (.int (f k) :: S))) : Gl p e below s P C N T (mkF m pc Ls (.int j :: .ref a :: S)) := by
  subst hq
  obtain ⟨cl, A, r1, r2⟩ := F
  exact s1 _ (fun t q => X.baloadBooleans hx (v := .int (f k)) (by rw [eT]; exact A.1) (State.isArrayOf_alike hZ.alike A.2.1) A.2.2 (inb hj (by omega)) (by rw [clamp hj]; exact r2 k hk) (g := mkF m pc Ls (.int j :: .ref a :: S)) rfl rfl hd t q) K
theorem ldb (X : Stand p l e R s m args below meth c T locs cells slots) (hx : p.tables.exec = Jvm.exec) (hZ : Z.Warmed39 s.vm) (eT : T.heap = h) (F : AI Z h a .byte n f) {j : Int32} (k : Nat) (hj : j.toInt = k) (hk : k < n) (hd : decode c.code pc = .ok (.baload, 1)) (hq : pc + 1 = pc')
    (K : Gl p e below s P C N T (mkF m pc' Ls (.int (f k) :: S))) : Gl p e below s P C N T (mkF m pc Ls (.int j :: .ref a :: S)) := by
  subst hq
  obtain ⟨cl, A, r1, r2⟩ := F
  exact s1 _ (fun t q => X.baloadBytes hx (v := .int (f k)) (by rw [eT]; exact A.1) (State.isArrayOf_alike hZ.alike A.2.1) A.2.2 (inb hj (by omega)) (by rw [clamp hj]; exact r2 k hk) (g := mkF m pc Ls (.int j :: .ref a :: S)) rfl rfl hd t q) K
theorem ldj (X : Stand p l e R s m args below meth c T locs cells slots) (hx : p.tables.exec = Jvm.exec) (hZ : Z.Warmed39 s.vm) (eT : T.heap = h) (F : AJ Z h a n q) {j : Int32} (k : Nat) (hj : j.toInt = k) (hk : k < n) (hd : decode c.code pc = .ok (.laload, 1)) (hq : pc + 1 = pc')
    (K : Gl p e below s P C N T (mkF m pc' Ls (.long (q k) :: S))) : Gl p e below s P C N T (mkF m pc Ls (.int j :: .ref a :: S)) := by
  subst hq
  obtain ⟨cl, A, r1, r2⟩ := F
  exact s1 _ (fun t u => X.laload hx (v := .long (q k)) (by rw [eT]; exact A.1) (State.isArrayOf_alike hZ.alike A.2.1) A.2.2 (inb hj (by omega)) (by rw [clamp hj]; exact r2 k hk) (g := mkF m pc Ls (.int j :: .ref a :: S)) rfl rfl hd t u) K
theorem alen (X : Stand p l e R s m args below meth c T locs cells slots) (hx : p.tables.exec = Jvm.exec) (hZ : Z.Warmed39 s.vm) (eT : T.heap = h) (F : AI Z h a ty n f) {z : Int32} (hz : z.toInt = n) (hd : decode c.code pc = .ok (.arraylength, 1)) (hq : pc + 1 = pc')
    (K : Gl p e below s P C N T (mkF m pc' Ls (.int z :: S))) : Gl p e below s P C N T (mkF m pc Ls (.ref a :: S)) := by
  subst hq
  obtain ⟨cl, A, r1, r2⟩ := F
  exact s1 _ (fun t u => X.arraylength hx (by rw [eT]; exact A.1) (State.isArrayOf_alike hZ.alike A.2.1) (g := mkF m pc Ls (.ref a :: S)) rfl rfl hd t (by rw [r1, szI hz]; exact u)) K
theorem alenJ (X : Stand p l e R s m args below meth c T locs cells slots) (hx : p.tables.exec = Jvm.exec) (hZ : Z.Warmed39 s.vm) (eT : T.heap = h) (F : AJ Z h a n q) {z : Int32} (hz : z.toInt = n) (hd : decode c.code pc = .ok (.arraylength, 1)) (hq : pc + 1 = pc')
    (K : Gl p e below s P C N T (mkF m pc' Ls (.int z :: S))) : Gl p e below s P C N T (mkF m pc Ls (.ref a :: S)) := by
  subst hq
  obtain ⟨cl, A, r1, r2⟩ := F
  exact s1 _ (fun t u => X.arraylength hx (by rw [eT]; exact A.1) (State.isArrayOf_alike hZ.alike A.2.1) (g := mkF m pc Ls (.ref a :: S)) rfl rfl hd t (by rw [r1, szI hz]; exact u)) K
theorem sti (X : Stand p l e R s m args below meth c T locs cells slots) (hx : p.tables.exec = Jvm.exec) (hZ : Z.Warmed39 s.vm) (eT : T.heap = h) (F : AI Z h a .int n f) {j x : Int32} (k : Nat) (hj : j.toInt = k) (hk : k < n) (N0 : Fr n0 locs) (ga : n0 ≤ a) (hd : decode c.code pc = .ok (.iastore, 1)) (hq : pc + 1 = pc')
    (K : ∀ T' h' L', Stand p l e R s m args below meth c T' L' cells slots → T'.heap = h' → Wr h h' a k (.int x) → AI Z h' a .int n (up f k x) → Fr n0 L' → Gl p e below s P C N T' (mkF m pc' Ls S)) : Gl p e below s P C N T (mkF m pc Ls (.int x :: .int j :: .ref a :: S)) := by
  subst hq
  obtain ⟨cl, A, r1, r2⟩ := F
  obtain ⟨T', h', X', e', W, st⟩ := stI X hx hZ eT A (inb hj (by omega)) (g := mkF m pc Ls (.int x :: .int j :: .ref a :: S)) rfl rfl hd
  have N1 := Fr.snoc X' N0 ga
  rw [clamp hj] at W
  exact s2 _ st (K T' h' _ X' e' W (AI.set ⟨cl, A, r1, r2⟩ W hk) N1)
theorem stz (X : Stand p l e R s m args below meth c T locs cells slots) (hx : p.tables.exec = Jvm.exec) (hZ : Z.Warmed39 s.vm) (eT : T.heap = h) (F : AI Z h a .boolean n f) {j x x' : Int32} (hn : nar .boolean x = x') (k : Nat) (hj : j.toInt = k) (hk : k < n) (N0 : Fr n0 locs) (ga : n0 ≤ a) (hd : decode c.code pc = .ok (.bastore, 1)) (hq : pc + 1 = pc')
    (K : ∀ T' h' L', Stand p l e R s m args below meth c T' L' cells slots → T'.heap = h' → Wr h h' a k (.int x') → AI Z h' a .boolean n (up f k x') → Fr n0 L' → Gl p e below s P C N T' (mkF m pc' Ls S)) : Gl p e below s P C N T (mkF m pc Ls (.int x :: .int j :: .ref a :: S)) := by
  subst hq hn
  obtain ⟨cl, A, r1, r2⟩ := F
  obtain ⟨T', h', X', e', W, st⟩ := stZ X hx hZ eT A (inb hj (by omega)) (g := mkF m pc Ls (.int x :: .int j :: .ref a :: S)) rfl rfl hd
  have N1 := Fr.snoc X' N0 ga
  rw [clamp hj] at W
  exact s2 _ st (K T' h' _ X' e' W (AI.set ⟨cl, A, r1, r2⟩ W hk) N1)
theorem stb (X : Stand p l e R s m args below meth c T locs cells slots) (hx : p.tables.exec = Jvm.exec) (hZ : Z.Warmed39 s.vm) (eT : T.heap = h) (F : AI Z h a .byte n f) {j x x' : Int32} (hn : nar .byte x = x') (k : Nat) (hj : j.toInt = k) (hk : k < n) (N0 : Fr n0 locs) (ga : n0 ≤ a) (hd : decode c.code pc = .ok (.bastore, 1)) (hq : pc + 1 = pc')
    (K : ∀ T' h' L', Stand p l e R s m args below meth c T' L' cells slots → T'.heap = h' → Wr h h' a k (.int x') → AI Z h' a .byte n (up f k x') → Fr n0 L' → Gl p e below s P C N T' (mkF m pc' Ls S)) : Gl p e below s P C N T (mkF m pc Ls (.int x :: .int j :: .ref a :: S)) := by
  subst hq hn
  obtain ⟨cl, A, r1, r2⟩ := F
  obtain ⟨T', h', X', e', W, st⟩ := stB X hx hZ eT A (inb hj (by omega)) (g := mkF m pc Ls (.int x :: .int j :: .ref a :: S)) rfl rfl hd
  have N1 := Fr.snoc X' N0 ga
  rw [clamp hj] at W
  exact s2 _ st (K T' h' _ X' e' W (AI.set ⟨cl, A, r1, r2⟩ W hk) N1)
theorem stj (X : Stand p l e R s m args below meth c T locs cells slots) (hx : p.tables.exec = Jvm.exec) (hZ : Z.Warmed39 s.vm) (eT : T.heap = h) (F : AJ Z h a n q) {j : Int32} {x : Int64} (k : Nat) (hj : j.toInt = k) (hk : k < n) (N0 : Fr n0 locs) (ga : n0 ≤ a) (hd : decode c.code pc = .ok (.lastore, 1)) (hq : pc + 1 = pc')
    (K : ∀ T' h' L', Stand p l e R s m args below meth c T' L' cells slots → T'.heap = h' → Wr h h' a k (.long x) → AJ Z h' a n (up q k x) → Fr n0 L' → Gl p e below s P C N T' (mkF m pc' Ls S)) : Gl p e below s P C N T (mkF m pc Ls (.long x :: .int j :: .ref a :: S)) := by
  subst hq
  obtain ⟨cl, A, r1, r2⟩ := F
  obtain ⟨T', h', X', e', W, st⟩ := stJ X hx hZ eT A (inb hj (by omega)) (g := mkF m pc Ls (.long x :: .int j :: .ref a :: S)) rfl rfl hd
  have N1 := Fr.snoc X' N0 ga
  rw [clamp hj] at W
  exact s2 _ st (K T' h' _ X' e' W (AJ.set ⟨cl, A, r1, r2⟩ W hk) N1)
end Steps
end Jvm.Pilot.@@N@@.W
namespace Jvm.Pilot.@@N@@
open Jvm Jvm.ClassFile Sem Op Lib Jvm.Free Jvm.Stand Jvm.LawKit Jvm.RoadKit Bundle Jvm.Pilot.@@N@@.Jvm.D
def own_G : Int64 := -7046029254386353131
def own_M1 : Int64 := -4658895280553007687
def own_M2 : Int64 := -7723592293110705685
def own_mix (z : Int64) : Int64 :=
  let z1 : Int64 := (z ^^^ ((z.toUInt64 >>> ((30 : Int32) &&& 0x3f).toInt64.toUInt64).toInt64)) * (-4658895280553007687 : Int64)
  let z2 : Int64 := (z1 ^^^ ((z1.toUInt64 >>> ((27 : Int32) &&& 0x3f).toInt64.toUInt64).toInt64)) * (-7723592293110705685 : Int64)
  z2 ^^^ ((z2.toUInt64 >>> ((31 : Int32) &&& 0x3f).toInt64.toUInt64).toInt64)
def own_stp (c x : Int64) : Int64 := x * ((2 : Int64) - c * x)
def own_inv (c : Int64) : Int64 := own_stp c (own_stp c (own_stp c (own_stp c (own_stp c c))))
def own_unx (z : Int64) (i j : Int32) : Int64 := (z ^^^ ((z.toUInt64 >>> (i &&& 0x3f).toInt64.toUInt64).toInt64)) ^^^ ((z.toUInt64 >>> (j &&& 0x3f).toInt64.toUInt64).toInt64)
def own_unmix (z : Int64) : Int64 := own_unx (own_unx (own_unx z 31 62 * own_inv (-7723592293110705685)) 27 54 * own_inv (-4658895280553007687)) 30 60
theorem own_i1 : (-4658895280553007687 : Int64) * own_inv (-4658895280553007687) = 1 := by decide +kernel
theorem own_i2 : (-7723592293110705685 : Int64) * own_inv (-7723592293110705685) = 1 := by decide +kernel
theorem own_mulinv {a k i : Int64} (h : k * i = 1) : (a * k) * i = a := by rw [Int64.mul_assoc, h, Int64.mul_one]
theorem own_bv (x : BitVec 64) (k : Nat) (hk : 64 ≤ k + k + k) : ((x ^^^ (x >>> k)) ^^^ ((x ^^^ (x >>> k)) >>> k)) ^^^ ((x ^^^ (x >>> k)) >>> (k + k)) = x := by
  apply BitVec.eq_of_getLsbD_eq
  intro i hi
  simp only [BitVec.getLsbD_xor, BitVec.getLsbD_ushiftRight]
  have e1 : k + (k + i) = k + k + i := by omega
  have e2 : x.getLsbD (k + (k + k + i)) = false := BitVec.getLsbD_of_ge _ _ (by omega)
  rw [e1, e2]
  cases x.getLsbD i <;> cases x.getLsbD (k + i) <;> cases x.getLsbD (k + k + i) <;> rfl
theorem own_sh {q : Int32} {k : Nat} (hk : (((q &&& 0x3f).toInt64.toUInt64) % 64).toBitVec.toNat = k) (x : Int64) : ((x.toUInt64 >>> (q &&& 0x3f).toInt64.toUInt64).toInt64).toBitVec = x.toBitVec >>> k := by
  subst hk; rfl
theorem own_back {i j : Int32} {k : Nat} (hi : (((i &&& 0x3f).toInt64.toUInt64) % 64).toBitVec.toNat = k) (hj : (((j &&& 0x3f).toInt64.toUInt64) % 64).toBitVec.toNat = k + k) (hk : 64 ≤ k + k + k) (x : Int64) :
    own_unx (x ^^^ ((x.toUInt64 >>> (i &&& 0x3f).toInt64.toUInt64).toInt64)) i j = x := by
  apply Int64.toBitVec_inj.mp
  unfold own_unx
  simp only [Int64.toBitVec_xor, own_sh hi, own_sh hj]
  exact own_bv x.toBitVec k hk
theorem own_law (z : Int64) : own_unmix (own_mix z) = z := by
  unfold own_unmix own_mix
  simp only []
  rw [own_back (k := 31) (by decide +kernel) (by decide +kernel) (by decide), own_mulinv own_i2, own_back (k := 27) (by decide +kernel) (by decide +kernel) (by decide), own_mulinv own_i1, own_back (k := 30) (by decide +kernel) (by decide +kernel) (by decide)]
theorem pn_0 : plainName "com/example/hybridge/hybridge/simulation/SplitMix64" = true := by first | (simp [plainName, overriddenIn]; done) | decide +kernel
theorem ef_1 (m : MethodId) (x0 : Addr) (x1 : Int64) : entryFrame m #[(.ref x0), (.long x1)] 3 = mkF m 0 #[.val (.ref x0), .val (.long x1), .second] [] := by first | (simp [entryFrame, mkF, argsToLocals, Value.category]; done) | rfl
theorem d1_0 : decode prog_96_method_1_code 0 = .ok (.aload_n 0, 1) := by decide +kernel
theorem d1_1 : decode prog_96_method_1_code 1 = .ok (.invokespecial 1, 3) := by decide +kernel
theorem d1_4 : decode prog_96_method_1_code 4 = .ok (.aload_n 0, 1) := by decide +kernel
theorem d1_5 : decode prog_96_method_1_code 5 = .ok (.lload_n 1, 1) := by decide +kernel
theorem d1_6 : decode prog_96_method_1_code 6 = .ok (.putfield 7, 3) := by decide +kernel
theorem d1_9 : decode prog_96_method_1_code 9 = .ok (.return_, 1) := by decide +kernel
def Q1 (Z : State) (ao : Addr) (ys : Int64) (uo : Value) (h0 : Heap) (n0 : Nat) (v : Option Value) (h : Heap) (L : List Loc) : Prop := v = none ∧ Fr n0 L ∧ Keep h0 h [ao] ∧ Fld Z h ao "com/example/hybridge/hybridge/simulation/SplitMix64" "state" "J" (.long ys)
set_option maxRecDepth 65536 in
set_option maxHeartbeats 40000000 in
theorem rm1 (l : Launch) (Z : State) (a0 : Array Value) (hw : ∀ d ∈ tables_1, d.before a0 Z = true) (ws : List Jvm.Cond) (ao : Addr) (ys : Int64) (uo : Value) (h0 : Heap) (n0 : Nat) (Z0 : n0 ≤ h0.size) (F0 : Fld Z h0 ao "com/example/hybridge/hybridge/simulation/SplitMix64" "state" "J" uo) (E0 : Exa Z h0 ao "com/example/hybridge/hybridge/simulation/SplitMix64") (ga : n0 ≤ ao) :
    MetFree l (⟨"com/example/hybridge/hybridge/simulation/SplitMix64", "<init>", "(J)V"⟩ : MethodName) (head1 (Jvm.Cond.code (⟨"com/example/hybridge/hybridge/simulation/SplitMix64", "<init>", "(J)V"⟩ : MethodName) prog_96_method_1_code 3 none :: ws) ({ frames := 1, cells := 0, slots := 0, locals := 12 } : Room)) (fun a U => a = #[(.ref ao), (.long ys)] ∧ Z.Warmed39 U.vm ∧ U.heap = h0) (fun _ _ _ _ _ => True) (fun _ U o U' => ∃ v L, o = .returned v ∧ Q1 Z ao ys uo h0 n0 v U'.heap L ∧ FrameEnd U o U' L ({ frames := 1, cells := 0, slots := 0, locals := 12 } : Room).cells ({ frames := 1, cells := 0, slots := 0, locals := 12 } : Room).slots) := by
  refine MetFree.of_bodySF (plainFor_of_name pn_0) hisR ?_
  intro p e s m args below meth c s₁ Bd hml0 hP hK
  obtain ⟨rfl, hZ, hh⟩ := hP
  have hx := Bd.exec
  have hby := Bd.bytes
  have hml : c.maxLocals = 3 := hml0
  have hown : s.vm.findClass "com/example/hybridge/hybridge/simulation/SplitMix64" = some m.cls := findClass_of_methodNamed Bd.named
  have hnm := (name_of_methodNamed Bd.named Bd.method).1
  have hlk : meth.locks = false := BodyLoose.notSynchronized Bd
  have X0 : Stand p l e ({ frames := 1, cells := 0, slots := 0, locals := 12 } : Room) s m #[(.ref ao), (.long ys)] below meth c s₁ [] 0 0 := Stand.of_body Bd
  have e0 : s₁.heap = h0 := by rw [← hh, Bd.state]; rfl
  have N0 := Fr.nil n0
  show W.Gl p e below s (Q1 Z ao ys uo h0 n0) ({ frames := 1, cells := 0, slots := 0, locals := 12 } : Room).cells ({ frames := 1, cells := 0, slots := 0, locals := 12 } : Room).slots s₁ (entryFrame m #[(.ref ao), (.long ys)] 3)
  refine W.cast (ef_1 m ao ys) ?_
  have K0 : Keep h0 h0 [ao] := Keep.refl h0 [ao]
  refine W.s1 (mkF m 1 #[.val (.ref ao), .val (.long ys), .second] [(.ref ao)]) (fun _ kx_ => XS.aloadN X0.here hx rfl (hb hby d1_0) rfl rfl kx_) ?_
  obtain ⟨T101, X101, e101, st101⟩ := initO X0 hx hZ hown (hw _ (List.mem_of_getElem? (i := 7) rfl)) (hw _ (List.mem_of_getElem? (i := 8) rfl)) (hw _ (List.mem_of_getElem? (i := 9) rfl)) e0 (g := (mkF m 1 #[.val (.ref ao), .val (.long ys), .second] [(.ref ao)])) rfl (by rw [hml]; rfl) rfl (hb hby d1_1) (by decide) (W := 0) (by show 2 * 0 + _ ≤ _; exact Nat.le_of_eq rfl) (by decide)
  refine W.s2 (mkF m 4 #[.val (.ref ao), .val (.long ys), .second] []) st101 ?_
  refine W.s1 (mkF m 5 #[.val (.ref ao), .val (.long ys), .second] [(.ref ao)]) (fun _ kx_ => XS.aloadN X101.here hx rfl (hb hby d1_4) rfl rfl kx_) ?_
  refine W.s1 (mkF m 6 #[.val (.ref ao), .val (.long ys), .second] [(.long ys), (.ref ao)]) (fun _ kx_ => XS.lloadN X101.here hx rfl (hb hby d1_5) rfl kx_) ?_
  refine W.putf X101 hx hZ hown (host := "") (Or.inl (hw _ (List.mem_of_getElem? (i := 10) rfl))) Via.refl e101 F0 E0 (Or.inl (hw _ (List.mem_of_getElem? (i := 11) rfl))) (hw _ (List.mem_of_getElem? (i := 2) rfl)) (ty := .long) (by decide) rfl rfl N0 ga (hb hby d1_6) (pc' := 9) rfl (fun T102 h102 L102 X102 e102 W102 fw102 N102 => ?_)
  have Z102 : n0 ≤ h102.size := Nat.le_trans Z0 (Keep.of_wr W102).1
  have f103 := E0.wr W102
  have K102 : Keep h0 h102 [ao] := K0.wr W102 (Or.inl (List.mem_of_getElem? (i := 0) rfl))
  exact W.ret0 X102 hx hlk Bd.returns (hb hby d1_9) (by show Q1 Z ao ys uo h0 n0 _ T102.heap _; rw [e102]; exact ⟨rfl, N102, K102, fw102⟩) (by decide) (by decide)
theorem ef_3 (m : MethodId) (x0 : Addr) : entryFrame m #[(.ref x0)] 3 = mkF m 0 #[.val (.ref x0), .unset, .unset] [] := by first | (simp [entryFrame, mkF, argsToLocals, Value.category]; done) | rfl
theorem d3_0 : decode prog_96_method_2_code 0 = .ok (.aload_n 0, 1) := by decide +kernel
theorem d3_1 : decode prog_96_method_2_code 1 = .ok (.dup, 1) := by decide +kernel
theorem d3_2 : decode prog_96_method_2_code 2 = .ok (.getfield 7, 3) := by decide +kernel
theorem d3_5 : decode prog_96_method_2_code 5 = .ok (.ldc2_w 13, 3) := by decide +kernel
theorem d3_8 : decode prog_96_method_2_code 8 = .ok (.ladd, 1) := by decide +kernel
theorem d3_9 : decode prog_96_method_2_code 9 = .ok (.putfield 7, 3) := by decide +kernel
theorem d3_12 : decode prog_96_method_2_code 12 = .ok (.aload_n 0, 1) := by decide +kernel
theorem d3_13 : decode prog_96_method_2_code 13 = .ok (.getfield 7, 3) := by decide +kernel
theorem d3_16 : decode prog_96_method_2_code 16 = .ok (.lstore_n 1, 1) := by decide +kernel
theorem d3_17 : decode prog_96_method_2_code 17 = .ok (.lload_n 1, 1) := by decide +kernel
theorem d3_18 : decode prog_96_method_2_code 18 = .ok (.lload_n 1, 1) := by decide +kernel
theorem d3_19 : decode prog_96_method_2_code 19 = .ok (.bipush 30, 2) := by decide +kernel
theorem d3_21 : decode prog_96_method_2_code 21 = .ok (.lushr, 1) := by decide +kernel
theorem d3_22 : decode prog_96_method_2_code 22 = .ok (.lxor, 1) := by decide +kernel
theorem d3_23 : decode prog_96_method_2_code 23 = .ok (.ldc2_w 15, 3) := by decide +kernel
theorem d3_26 : decode prog_96_method_2_code 26 = .ok (.lmul, 1) := by decide +kernel
theorem d3_27 : decode prog_96_method_2_code 27 = .ok (.lstore_n 1, 1) := by decide +kernel
theorem d3_28 : decode prog_96_method_2_code 28 = .ok (.lload_n 1, 1) := by decide +kernel
theorem d3_29 : decode prog_96_method_2_code 29 = .ok (.lload_n 1, 1) := by decide +kernel
theorem d3_30 : decode prog_96_method_2_code 30 = .ok (.bipush 27, 2) := by decide +kernel
theorem d3_32 : decode prog_96_method_2_code 32 = .ok (.lushr, 1) := by decide +kernel
theorem d3_33 : decode prog_96_method_2_code 33 = .ok (.lxor, 1) := by decide +kernel
theorem d3_34 : decode prog_96_method_2_code 34 = .ok (.ldc2_w 17, 3) := by decide +kernel
theorem d3_37 : decode prog_96_method_2_code 37 = .ok (.lmul, 1) := by decide +kernel
theorem d3_38 : decode prog_96_method_2_code 38 = .ok (.lstore_n 1, 1) := by decide +kernel
theorem d3_39 : decode prog_96_method_2_code 39 = .ok (.lload_n 1, 1) := by decide +kernel
theorem d3_40 : decode prog_96_method_2_code 40 = .ok (.lload_n 1, 1) := by decide +kernel
theorem d3_41 : decode prog_96_method_2_code 41 = .ok (.bipush 31, 2) := by decide +kernel
theorem d3_43 : decode prog_96_method_2_code 43 = .ok (.lushr, 1) := by decide +kernel
theorem d3_44 : decode prog_96_method_2_code 44 = .ok (.lxor, 1) := by decide +kernel
theorem d3_45 : decode prog_96_method_2_code 45 = .ok (.lreturn, 1) := by decide +kernel
def Q3 (Z : State) (ao : Addr) (ys : Int64) (h0 : Heap) (n0 : Nat) (v : Option Value) (h : Heap) (L : List Loc) : Prop := v = some (.long (own_mix (ys + (-7046029254386353131 : Int64)))) ∧ Fr n0 L ∧ Keep h0 h [ao] ∧ Fld Z h ao "com/example/hybridge/hybridge/simulation/SplitMix64" "state" "J" (.long (ys + (-7046029254386353131 : Int64)))
set_option maxRecDepth 65536 in
set_option maxHeartbeats 40000000 in
theorem rm3 (l : Launch) (Z : State) (a0 : Array Value) (hw : ∀ d ∈ tables_1, d.before a0 Z = true) (ws : List Jvm.Cond) (ao : Addr) (ys : Int64) (h0 : Heap) (n0 : Nat) (Z0 : n0 ≤ h0.size) (F0 : Fld Z h0 ao "com/example/hybridge/hybridge/simulation/SplitMix64" "state" "J" (.long ys)) (E0 : Exa Z h0 ao "com/example/hybridge/hybridge/simulation/SplitMix64") (ga : n0 ≤ ao) :
    MetFree l (⟨"com/example/hybridge/hybridge/simulation/SplitMix64", "nextLong", "()J"⟩ : MethodName) (head1 (Jvm.Cond.code (⟨"com/example/hybridge/hybridge/simulation/SplitMix64", "nextLong", "()J"⟩ : MethodName) prog_96_method_2_code 3 (some .long) :: ws) ({ frames := 0, cells := 0, slots := 0, locals := 0 } : Room)) (fun a U => a = #[(.ref ao)] ∧ Z.Warmed39 U.vm ∧ U.heap = h0) (fun _ _ _ _ _ => True) (fun _ U o U' => ∃ v L, o = .returned v ∧ Q3 Z ao ys h0 n0 v U'.heap L ∧ FrameEnd U o U' L ({ frames := 0, cells := 0, slots := 0, locals := 0 } : Room).cells ({ frames := 0, cells := 0, slots := 0, locals := 0 } : Room).slots) := by
  refine MetFree.of_bodySF (plainFor_of_name pn_0) hisR ?_
  intro p e s m args below meth c s₁ Bd hml0 hP hK
  obtain ⟨rfl, hZ, hh⟩ := hP
  have hx := Bd.exec
  have hby := Bd.bytes
  have hml : c.maxLocals = 3 := hml0
  have hown : s.vm.findClass "com/example/hybridge/hybridge/simulation/SplitMix64" = some m.cls := findClass_of_methodNamed Bd.named
  have hnm := (name_of_methodNamed Bd.named Bd.method).1
  have hlk : meth.locks = false := BodyLoose.notSynchronized Bd
  have X0 : Stand p l e ({ frames := 0, cells := 0, slots := 0, locals := 0 } : Room) s m #[(.ref ao)] below meth c s₁ [] 0 0 := Stand.of_body Bd
  have e0 : s₁.heap = h0 := by rw [← hh, Bd.state]; rfl
  have N0 := Fr.nil n0
  show W.Gl p e below s (Q3 Z ao ys h0 n0) ({ frames := 0, cells := 0, slots := 0, locals := 0 } : Room).cells ({ frames := 0, cells := 0, slots := 0, locals := 0 } : Room).slots s₁ (entryFrame m #[(.ref ao)] 3)
  refine W.cast (ef_3 m ao) ?_
  have K0 : Keep h0 h0 [ao] := Keep.refl h0 [ao]
  refine W.s1 (mkF m 1 #[.val (.ref ao), .unset, .unset] [(.ref ao)]) (fun _ kx_ => XS.aloadN X0.here hx rfl (hb hby d3_0) rfl rfl kx_) ?_
  refine W.s1 (mkF m 2 #[.val (.ref ao), .unset, .unset] [(.ref ao), (.ref ao)]) (fun _ kx_ => XS.dup X0.here hx rfl (hb hby d3_1) rfl rfl kx_) ?_
  refine W.getf X0 hx hZ hown (host := "") (Or.inl (hw _ (List.mem_of_getElem? (i := 10) rfl))) Via.refl e0 F0 (hb hby d3_2) (pc' := 5) rfl (fun T101 X101 e101 => ?_)
  refine W.s1 (mkF m 8 #[.val (.ref ao), .unset, .unset] [(.long (-7046029254386353131 : Int64)), (.long ys), (.ref ao)]) (fun _ kx_ => X101.ldc2Long hx hown (mvT hZ (hw _ (List.mem_of_getElem? (i := 17) rfl))) (g := (mkF m 5 #[.val (.ref ao), .unset, .unset] [(.long ys), (.ref ao)])) rfl (hb hby d3_5) _ kx_) ?_
  refine W.s1 (mkF m 9 #[.val (.ref ao), .unset, .unset] [(.long (ys + (-7046029254386353131 : Int64))), (.ref ao)]) (fun _ kx_ => XS.ladd X101.here hx rfl (hb hby d3_8) rfl kx_) ?_
  refine W.putf X101 hx hZ hown (host := "") (Or.inl (hw _ (List.mem_of_getElem? (i := 10) rfl))) Via.refl e101 F0 E0 (Or.inl (hw _ (List.mem_of_getElem? (i := 11) rfl))) (hw _ (List.mem_of_getElem? (i := 2) rfl)) (ty := .long) (by decide) rfl rfl N0 ga (hb hby d3_9) (pc' := 12) rfl (fun T102 h102 L102 X102 e102 W102 fw102 N102 => ?_)
  have Z102 : n0 ≤ h102.size := Nat.le_trans Z0 (Keep.of_wr W102).1
  have f103 := E0.wr W102
  have K102 : Keep h0 h102 [ao] := K0.wr W102 (Or.inl (List.mem_of_getElem? (i := 0) rfl))
  refine W.s1 (mkF m 13 #[.val (.ref ao), .unset, .unset] [(.ref ao)]) (fun _ kx_ => XS.aloadN X102.here hx rfl (hb hby d3_12) rfl rfl kx_) ?_
  refine W.getf X102 hx hZ hown (host := "") (Or.inl (hw _ (List.mem_of_getElem? (i := 10) rfl))) Via.refl e102 fw102 (hb hby d3_13) (pc' := 16) rfl (fun T104 X104 e104 => ?_)
  generalize hg_z0 : (ys + (-7046029254386353131 : Int64)) = z0
  refine W.s1 (mkF m 17 #[.val (.ref ao), .val (.long z0), .second] []) (fun _ kx_ => XS.lstoreN X104.here hx rfl (hb hby d3_16) rfl (l' := #[.val (.ref ao), .val (.long z0), .second]) rfl kx_) ?_
  refine W.s1 (mkF m 18 #[.val (.ref ao), .val (.long z0), .second] [(.long z0)]) (fun _ kx_ => XS.lloadN X104.here hx rfl (hb hby d3_17) rfl kx_) ?_
  refine W.s1 (mkF m 19 #[.val (.ref ao), .val (.long z0), .second] [(.long z0), (.long z0)]) (fun _ kx_ => XS.lloadN X104.here hx rfl (hb hby d3_18) rfl kx_) ?_
  refine W.s1 (mkF m 21 #[.val (.ref ao), .val (.long z0), .second] [(.int (30 : Int32)), (.long z0), (.long z0)]) (fun _ kx_ => XS.bipush X104.here hx rfl (hb hby d3_19) kx_) ?_
  refine W.s1 (mkF m 22 #[.val (.ref ao), .val (.long z0), .second] [(.long ((z0.toUInt64 >>> ((30 : Int32) &&& 0x3f).toInt64.toUInt64).toInt64)), (.long z0)]) (fun _ kx_ => XS.lushr X104.here hx rfl (hb hby d3_21) rfl kx_) ?_
  refine W.s1 (mkF m 23 #[.val (.ref ao), .val (.long z0), .second] [(.long (z0 ^^^ ((z0.toUInt64 >>> ((30 : Int32) &&& 0x3f).toInt64.toUInt64).toInt64)))]) (fun _ kx_ => XS.lxor X104.here hx rfl (hb hby d3_22) rfl kx_) ?_
  refine W.s1 (mkF m 26 #[.val (.ref ao), .val (.long z0), .second] [(.long (-4658895280553007687 : Int64)), (.long (z0 ^^^ ((z0.toUInt64 >>> ((30 : Int32) &&& 0x3f).toInt64.toUInt64).toInt64)))]) (fun _ kx_ => X104.ldc2Long hx hown (mvT hZ (hw _ (List.mem_of_getElem? (i := 18) rfl))) (g := (mkF m 23 #[.val (.ref ao), .val (.long z0), .second] [(.long (z0 ^^^ ((z0.toUInt64 >>> ((30 : Int32) &&& 0x3f).toInt64.toUInt64).toInt64)))])) rfl (hb hby d3_23) _ kx_) ?_
  refine W.s1 (mkF m 27 #[.val (.ref ao), .val (.long z0), .second] [(.long ((z0 ^^^ ((z0.toUInt64 >>> ((30 : Int32) &&& 0x3f).toInt64.toUInt64).toInt64)) * (-4658895280553007687 : Int64)))]) (fun _ kx_ => XS.lmul X104.here hx rfl (hb hby d3_26) rfl kx_) ?_
  generalize hg_z1 : ((z0 ^^^ ((z0.toUInt64 >>> ((30 : Int32) &&& 0x3f).toInt64.toUInt64).toInt64)) * (-4658895280553007687 : Int64)) = z1
  refine W.s1 (mkF m 28 #[.val (.ref ao), .val (.long z1), .second] []) (fun _ kx_ => XS.lstoreN X104.here hx rfl (hb hby d3_27) rfl (l' := #[.val (.ref ao), .val (.long z1), .second]) rfl kx_) ?_
  refine W.s1 (mkF m 29 #[.val (.ref ao), .val (.long z1), .second] [(.long z1)]) (fun _ kx_ => XS.lloadN X104.here hx rfl (hb hby d3_28) rfl kx_) ?_
  refine W.s1 (mkF m 30 #[.val (.ref ao), .val (.long z1), .second] [(.long z1), (.long z1)]) (fun _ kx_ => XS.lloadN X104.here hx rfl (hb hby d3_29) rfl kx_) ?_
  refine W.s1 (mkF m 32 #[.val (.ref ao), .val (.long z1), .second] [(.int (27 : Int32)), (.long z1), (.long z1)]) (fun _ kx_ => XS.bipush X104.here hx rfl (hb hby d3_30) kx_) ?_
  refine W.s1 (mkF m 33 #[.val (.ref ao), .val (.long z1), .second] [(.long ((z1.toUInt64 >>> ((27 : Int32) &&& 0x3f).toInt64.toUInt64).toInt64)), (.long z1)]) (fun _ kx_ => XS.lushr X104.here hx rfl (hb hby d3_32) rfl kx_) ?_
  refine W.s1 (mkF m 34 #[.val (.ref ao), .val (.long z1), .second] [(.long (z1 ^^^ ((z1.toUInt64 >>> ((27 : Int32) &&& 0x3f).toInt64.toUInt64).toInt64)))]) (fun _ kx_ => XS.lxor X104.here hx rfl (hb hby d3_33) rfl kx_) ?_
  refine W.s1 (mkF m 37 #[.val (.ref ao), .val (.long z1), .second] [(.long (-7723592293110705685 : Int64)), (.long (z1 ^^^ ((z1.toUInt64 >>> ((27 : Int32) &&& 0x3f).toInt64.toUInt64).toInt64)))]) (fun _ kx_ => X104.ldc2Long hx hown (mvT hZ (hw _ (List.mem_of_getElem? (i := 19) rfl))) (g := (mkF m 34 #[.val (.ref ao), .val (.long z1), .second] [(.long (z1 ^^^ ((z1.toUInt64 >>> ((27 : Int32) &&& 0x3f).toInt64.toUInt64).toInt64)))])) rfl (hb hby d3_34) _ kx_) ?_
  refine W.s1 (mkF m 38 #[.val (.ref ao), .val (.long z1), .second] [(.long ((z1 ^^^ ((z1.toUInt64 >>> ((27 : Int32) &&& 0x3f).toInt64.toUInt64).toInt64)) * (-7723592293110705685 : Int64)))]) (fun _ kx_ => XS.lmul X104.here hx rfl (hb hby d3_37) rfl kx_) ?_
  generalize hg_z2 : ((z1 ^^^ ((z1.toUInt64 >>> ((27 : Int32) &&& 0x3f).toInt64.toUInt64).toInt64)) * (-7723592293110705685 : Int64)) = z2
  refine W.s1 (mkF m 39 #[.val (.ref ao), .val (.long z2), .second] []) (fun _ kx_ => XS.lstoreN X104.here hx rfl (hb hby d3_38) rfl (l' := #[.val (.ref ao), .val (.long z2), .second]) rfl kx_) ?_
  refine W.s1 (mkF m 40 #[.val (.ref ao), .val (.long z2), .second] [(.long z2)]) (fun _ kx_ => XS.lloadN X104.here hx rfl (hb hby d3_39) rfl kx_) ?_
  refine W.s1 (mkF m 41 #[.val (.ref ao), .val (.long z2), .second] [(.long z2), (.long z2)]) (fun _ kx_ => XS.lloadN X104.here hx rfl (hb hby d3_40) rfl kx_) ?_
  refine W.s1 (mkF m 43 #[.val (.ref ao), .val (.long z2), .second] [(.int (31 : Int32)), (.long z2), (.long z2)]) (fun _ kx_ => XS.bipush X104.here hx rfl (hb hby d3_41) kx_) ?_
  refine W.s1 (mkF m 44 #[.val (.ref ao), .val (.long z2), .second] [(.long ((z2.toUInt64 >>> ((31 : Int32) &&& 0x3f).toInt64.toUInt64).toInt64)), (.long z2)]) (fun _ kx_ => XS.lushr X104.here hx rfl (hb hby d3_43) rfl kx_) ?_
  refine W.s1 (mkF m 45 #[.val (.ref ao), .val (.long z2), .second] [(.long (z2 ^^^ ((z2.toUInt64 >>> ((31 : Int32) &&& 0x3f).toInt64.toUInt64).toInt64)))]) (fun _ kx_ => XS.lxor X104.here hx rfl (hb hby d3_44) rfl kx_) ?_
  exact W.retL X104 hx hlk Bd.returns (hb hby d3_45) (by show Q3 Z ao ys h0 n0 _ T104.heap _; rw [e104]; exact ⟨by subst hg_z2 hg_z1 hg_z0; rfl, N102, K102, fw102⟩) (by decide) (by decide)
theorem pn_1 : plainName "com/example/hybridge/hybridge/simulation/SplitMix64NextLongPinLaw" = true := by first | (simp [plainName, overriddenIn]; done) | decide +kernel
theorem ef_5 (m : MethodId) (x0 : Int64) : entryFrame m #[(.long x0)] 4 = mkF m 0 #[.val (.long x0), .second, .unset, .unset] [] := by first | (simp [entryFrame, mkF, argsToLocals, Value.category]; done) | rfl
theorem d5_0 : decode method_2_code 0 = .ok (.lload_n 0, 1) := by decide +kernel
theorem d5_1 : decode method_2_code 1 = .ok (.lstore_n 2, 1) := by decide +kernel
theorem d5_2 : decode method_2_code 2 = .ok (.lload_n 2, 1) := by decide +kernel
theorem d5_3 : decode method_2_code 3 = .ok (.ldc2_w 7, 3) := by decide +kernel
theorem d5_6 : decode method_2_code 6 = .ok (.lload_n 0, 1) := by decide +kernel
theorem d5_7 : decode method_2_code 7 = .ok (.lload_n 2, 1) := by decide +kernel
theorem d5_8 : decode method_2_code 8 = .ok (.lmul, 1) := by decide +kernel
theorem d5_9 : decode method_2_code 9 = .ok (.lsub, 1) := by decide +kernel
theorem d5_10 : decode method_2_code 10 = .ok (.lmul, 1) := by decide +kernel
theorem d5_11 : decode method_2_code 11 = .ok (.lstore_n 2, 1) := by decide +kernel
theorem d5_12 : decode method_2_code 12 = .ok (.lload_n 2, 1) := by decide +kernel
theorem d5_13 : decode method_2_code 13 = .ok (.ldc2_w 7, 3) := by decide +kernel
theorem d5_16 : decode method_2_code 16 = .ok (.lload_n 0, 1) := by decide +kernel
theorem d5_17 : decode method_2_code 17 = .ok (.lload_n 2, 1) := by decide +kernel
theorem d5_18 : decode method_2_code 18 = .ok (.lmul, 1) := by decide +kernel
theorem d5_19 : decode method_2_code 19 = .ok (.lsub, 1) := by decide +kernel
theorem d5_20 : decode method_2_code 20 = .ok (.lmul, 1) := by decide +kernel
theorem d5_21 : decode method_2_code 21 = .ok (.lstore_n 2, 1) := by decide +kernel
theorem d5_22 : decode method_2_code 22 = .ok (.lload_n 2, 1) := by decide +kernel
theorem d5_23 : decode method_2_code 23 = .ok (.ldc2_w 7, 3) := by decide +kernel
theorem d5_26 : decode method_2_code 26 = .ok (.lload_n 0, 1) := by decide +kernel
theorem d5_27 : decode method_2_code 27 = .ok (.lload_n 2, 1) := by decide +kernel
theorem d5_28 : decode method_2_code 28 = .ok (.lmul, 1) := by decide +kernel
theorem d5_29 : decode method_2_code 29 = .ok (.lsub, 1) := by decide +kernel
theorem d5_30 : decode method_2_code 30 = .ok (.lmul, 1) := by decide +kernel
theorem d5_31 : decode method_2_code 31 = .ok (.lstore_n 2, 1) := by decide +kernel
theorem d5_32 : decode method_2_code 32 = .ok (.lload_n 2, 1) := by decide +kernel
theorem d5_33 : decode method_2_code 33 = .ok (.ldc2_w 7, 3) := by decide +kernel
theorem d5_36 : decode method_2_code 36 = .ok (.lload_n 0, 1) := by decide +kernel
theorem d5_37 : decode method_2_code 37 = .ok (.lload_n 2, 1) := by decide +kernel
theorem d5_38 : decode method_2_code 38 = .ok (.lmul, 1) := by decide +kernel
theorem d5_39 : decode method_2_code 39 = .ok (.lsub, 1) := by decide +kernel
theorem d5_40 : decode method_2_code 40 = .ok (.lmul, 1) := by decide +kernel
theorem d5_41 : decode method_2_code 41 = .ok (.lstore_n 2, 1) := by decide +kernel
theorem d5_42 : decode method_2_code 42 = .ok (.lload_n 2, 1) := by decide +kernel
theorem d5_43 : decode method_2_code 43 = .ok (.ldc2_w 7, 3) := by decide +kernel
theorem d5_46 : decode method_2_code 46 = .ok (.lload_n 0, 1) := by decide +kernel
theorem d5_47 : decode method_2_code 47 = .ok (.lload_n 2, 1) := by decide +kernel
theorem d5_48 : decode method_2_code 48 = .ok (.lmul, 1) := by decide +kernel
theorem d5_49 : decode method_2_code 49 = .ok (.lsub, 1) := by decide +kernel
theorem d5_50 : decode method_2_code 50 = .ok (.lmul, 1) := by decide +kernel
theorem d5_51 : decode method_2_code 51 = .ok (.lstore_n 2, 1) := by decide +kernel
theorem d5_52 : decode method_2_code 52 = .ok (.lload_n 2, 1) := by decide +kernel
theorem d5_53 : decode method_2_code 53 = .ok (.lreturn, 1) := by decide +kernel
def Q5 (Z : State) (yc : Int64) (h0 : Heap) (n0 : Nat) (v : Option Value) (h : Heap) (L : List Loc) : Prop := v = some (.long (own_inv yc)) ∧ Fr n0 L ∧ h = h0
set_option maxRecDepth 65536 in
set_option maxHeartbeats 40000000 in
theorem rm5 (l : Launch) (Z : State) (a0 : Array Value) (hw : ∀ d ∈ tables_1, d.before a0 Z = true) (ws : List Jvm.Cond) (yc : Int64) (h0 : Heap) (n0 : Nat) (Z0 : n0 ≤ h0.size) :
    MetFree l (⟨"com/example/hybridge/hybridge/simulation/SplitMix64NextLongPinLaw", "inverse", "(J)J"⟩ : MethodName) (head1 (Jvm.Cond.code (⟨"com/example/hybridge/hybridge/simulation/SplitMix64NextLongPinLaw", "inverse", "(J)J"⟩ : MethodName) method_2_code 4 (some .long) :: ws) ({ frames := 0, cells := 0, slots := 0, locals := 0 } : Room)) (fun a U => a = #[(.long yc)] ∧ Z.Warmed39 U.vm ∧ U.heap = h0) (fun _ _ _ _ _ => True) (fun _ U o U' => ∃ v L, o = .returned v ∧ Q5 Z yc h0 n0 v U'.heap L ∧ FrameEnd U o U' L ({ frames := 0, cells := 0, slots := 0, locals := 0 } : Room).cells ({ frames := 0, cells := 0, slots := 0, locals := 0 } : Room).slots) := by
  refine MetFree.of_bodySF (plainFor_of_name pn_1) hisR ?_
  intro p e s m args below meth c s₁ Bd hml0 hP hK
  obtain ⟨rfl, hZ, hh⟩ := hP
  have hx := Bd.exec
  have hby := Bd.bytes
  have hml : c.maxLocals = 4 := hml0
  have hown : s.vm.findClass "com/example/hybridge/hybridge/simulation/SplitMix64NextLongPinLaw" = some m.cls := findClass_of_methodNamed Bd.named
  have hnm := (name_of_methodNamed Bd.named Bd.method).1
  have hlk : meth.locks = false := BodyLoose.notSynchronized Bd
  have X0 : Stand p l e ({ frames := 0, cells := 0, slots := 0, locals := 0 } : Room) s m #[(.long yc)] below meth c s₁ [] 0 0 := Stand.of_body Bd
  have e0 : s₁.heap = h0 := by rw [← hh, Bd.state]; rfl
  have N0 := Fr.nil n0
  show W.Gl p e below s (Q5 Z yc h0 n0) ({ frames := 0, cells := 0, slots := 0, locals := 0 } : Room).cells ({ frames := 0, cells := 0, slots := 0, locals := 0 } : Room).slots s₁ (entryFrame m #[(.long yc)] 4)
  refine W.cast (ef_5 m yc) ?_
  refine W.s1 (mkF m 1 #[.val (.long yc), .second, .unset, .unset] [(.long yc)]) (fun _ kx_ => XS.lloadN X0.here hx rfl (hb hby d5_0) rfl kx_) ?_
  refine W.s1 (mkF m 2 #[.val (.long yc), .second, .val (.long yc), .second] []) (fun _ kx_ => XS.lstoreN X0.here hx rfl (hb hby d5_1) rfl (l' := #[.val (.long yc), .second, .val (.long yc), .second]) rfl kx_) ?_
  refine W.s1 (mkF m 3 #[.val (.long yc), .second, .val (.long yc), .second] [(.long yc)]) (fun _ kx_ => XS.lloadN X0.here hx rfl (hb hby d5_2) rfl kx_) ?_
  refine W.s1 (mkF m 6 #[.val (.long yc), .second, .val (.long yc), .second] [(.long (2 : Int64)), (.long yc)]) (fun _ kx_ => X0.ldc2Long hx hown (mvT hZ (hw _ (List.mem_of_getElem? (i := 28) rfl))) (g := (mkF m 3 #[.val (.long yc), .second, .val (.long yc), .second] [(.long yc)])) rfl (hb hby d5_3) _ kx_) ?_
  refine W.s1 (mkF m 7 #[.val (.long yc), .second, .val (.long yc), .second] [(.long yc), (.long (2 : Int64)), (.long yc)]) (fun _ kx_ => XS.lloadN X0.here hx rfl (hb hby d5_6) rfl kx_) ?_
  refine W.s1 (mkF m 8 #[.val (.long yc), .second, .val (.long yc), .second] [(.long yc), (.long yc), (.long (2 : Int64)), (.long yc)]) (fun _ kx_ => XS.lloadN X0.here hx rfl (hb hby d5_7) rfl kx_) ?_
  refine W.s1 (mkF m 9 #[.val (.long yc), .second, .val (.long yc), .second] [(.long (yc * yc)), (.long (2 : Int64)), (.long yc)]) (fun _ kx_ => XS.lmul X0.here hx rfl (hb hby d5_8) rfl kx_) ?_
  refine W.s1 (mkF m 10 #[.val (.long yc), .second, .val (.long yc), .second] [(.long ((2 : Int64) - (yc * yc))), (.long yc)]) (fun _ kx_ => XS.lsub X0.here hx rfl (hb hby d5_9) rfl kx_) ?_
  refine W.s1 (mkF m 11 #[.val (.long yc), .second, .val (.long yc), .second] [(.long (yc * ((2 : Int64) - (yc * yc))))]) (fun _ kx_ => XS.lmul X0.here hx rfl (hb hby d5_10) rfl kx_) ?_
  generalize hg_z1 : (yc * ((2 : Int64) - (yc * yc))) = z1
  refine W.s1 (mkF m 12 #[.val (.long yc), .second, .val (.long z1), .second] []) (fun _ kx_ => XS.lstoreN X0.here hx rfl (hb hby d5_11) rfl (l' := #[.val (.long yc), .second, .val (.long z1), .second]) rfl kx_) ?_
  refine W.s1 (mkF m 13 #[.val (.long yc), .second, .val (.long z1), .second] [(.long z1)]) (fun _ kx_ => XS.lloadN X0.here hx rfl (hb hby d5_12) rfl kx_) ?_
  refine W.s1 (mkF m 16 #[.val (.long yc), .second, .val (.long z1), .second] [(.long (2 : Int64)), (.long z1)]) (fun _ kx_ => X0.ldc2Long hx hown (mvT hZ (hw _ (List.mem_of_getElem? (i := 28) rfl))) (g := (mkF m 13 #[.val (.long yc), .second, .val (.long z1), .second] [(.long z1)])) rfl (hb hby d5_13) _ kx_) ?_
  refine W.s1 (mkF m 17 #[.val (.long yc), .second, .val (.long z1), .second] [(.long yc), (.long (2 : Int64)), (.long z1)]) (fun _ kx_ => XS.lloadN X0.here hx rfl (hb hby d5_16) rfl kx_) ?_
  refine W.s1 (mkF m 18 #[.val (.long yc), .second, .val (.long z1), .second] [(.long z1), (.long yc), (.long (2 : Int64)), (.long z1)]) (fun _ kx_ => XS.lloadN X0.here hx rfl (hb hby d5_17) rfl kx_) ?_
  refine W.s1 (mkF m 19 #[.val (.long yc), .second, .val (.long z1), .second] [(.long (yc * z1)), (.long (2 : Int64)), (.long z1)]) (fun _ kx_ => XS.lmul X0.here hx rfl (hb hby d5_18) rfl kx_) ?_
  refine W.s1 (mkF m 20 #[.val (.long yc), .second, .val (.long z1), .second] [(.long ((2 : Int64) - (yc * z1))), (.long z1)]) (fun _ kx_ => XS.lsub X0.here hx rfl (hb hby d5_19) rfl kx_) ?_
  refine W.s1 (mkF m 21 #[.val (.long yc), .second, .val (.long z1), .second] [(.long (z1 * ((2 : Int64) - (yc * z1))))]) (fun _ kx_ => XS.lmul X0.here hx rfl (hb hby d5_20) rfl kx_) ?_
  generalize hg_z2 : (z1 * ((2 : Int64) - (yc * z1))) = z2
  refine W.s1 (mkF m 22 #[.val (.long yc), .second, .val (.long z2), .second] []) (fun _ kx_ => XS.lstoreN X0.here hx rfl (hb hby d5_21) rfl (l' := #[.val (.long yc), .second, .val (.long z2), .second]) rfl kx_) ?_
  refine W.s1 (mkF m 23 #[.val (.long yc), .second, .val (.long z2), .second] [(.long z2)]) (fun _ kx_ => XS.lloadN X0.here hx rfl (hb hby d5_22) rfl kx_) ?_
  refine W.s1 (mkF m 26 #[.val (.long yc), .second, .val (.long z2), .second] [(.long (2 : Int64)), (.long z2)]) (fun _ kx_ => X0.ldc2Long hx hown (mvT hZ (hw _ (List.mem_of_getElem? (i := 28) rfl))) (g := (mkF m 23 #[.val (.long yc), .second, .val (.long z2), .second] [(.long z2)])) rfl (hb hby d5_23) _ kx_) ?_
  refine W.s1 (mkF m 27 #[.val (.long yc), .second, .val (.long z2), .second] [(.long yc), (.long (2 : Int64)), (.long z2)]) (fun _ kx_ => XS.lloadN X0.here hx rfl (hb hby d5_26) rfl kx_) ?_
  refine W.s1 (mkF m 28 #[.val (.long yc), .second, .val (.long z2), .second] [(.long z2), (.long yc), (.long (2 : Int64)), (.long z2)]) (fun _ kx_ => XS.lloadN X0.here hx rfl (hb hby d5_27) rfl kx_) ?_
  refine W.s1 (mkF m 29 #[.val (.long yc), .second, .val (.long z2), .second] [(.long (yc * z2)), (.long (2 : Int64)), (.long z2)]) (fun _ kx_ => XS.lmul X0.here hx rfl (hb hby d5_28) rfl kx_) ?_
  refine W.s1 (mkF m 30 #[.val (.long yc), .second, .val (.long z2), .second] [(.long ((2 : Int64) - (yc * z2))), (.long z2)]) (fun _ kx_ => XS.lsub X0.here hx rfl (hb hby d5_29) rfl kx_) ?_
  refine W.s1 (mkF m 31 #[.val (.long yc), .second, .val (.long z2), .second] [(.long (z2 * ((2 : Int64) - (yc * z2))))]) (fun _ kx_ => XS.lmul X0.here hx rfl (hb hby d5_30) rfl kx_) ?_
  generalize hg_z3 : (z2 * ((2 : Int64) - (yc * z2))) = z3
  refine W.s1 (mkF m 32 #[.val (.long yc), .second, .val (.long z3), .second] []) (fun _ kx_ => XS.lstoreN X0.here hx rfl (hb hby d5_31) rfl (l' := #[.val (.long yc), .second, .val (.long z3), .second]) rfl kx_) ?_
  refine W.s1 (mkF m 33 #[.val (.long yc), .second, .val (.long z3), .second] [(.long z3)]) (fun _ kx_ => XS.lloadN X0.here hx rfl (hb hby d5_32) rfl kx_) ?_
  refine W.s1 (mkF m 36 #[.val (.long yc), .second, .val (.long z3), .second] [(.long (2 : Int64)), (.long z3)]) (fun _ kx_ => X0.ldc2Long hx hown (mvT hZ (hw _ (List.mem_of_getElem? (i := 28) rfl))) (g := (mkF m 33 #[.val (.long yc), .second, .val (.long z3), .second] [(.long z3)])) rfl (hb hby d5_33) _ kx_) ?_
  refine W.s1 (mkF m 37 #[.val (.long yc), .second, .val (.long z3), .second] [(.long yc), (.long (2 : Int64)), (.long z3)]) (fun _ kx_ => XS.lloadN X0.here hx rfl (hb hby d5_36) rfl kx_) ?_
  refine W.s1 (mkF m 38 #[.val (.long yc), .second, .val (.long z3), .second] [(.long z3), (.long yc), (.long (2 : Int64)), (.long z3)]) (fun _ kx_ => XS.lloadN X0.here hx rfl (hb hby d5_37) rfl kx_) ?_
  refine W.s1 (mkF m 39 #[.val (.long yc), .second, .val (.long z3), .second] [(.long (yc * z3)), (.long (2 : Int64)), (.long z3)]) (fun _ kx_ => XS.lmul X0.here hx rfl (hb hby d5_38) rfl kx_) ?_
  refine W.s1 (mkF m 40 #[.val (.long yc), .second, .val (.long z3), .second] [(.long ((2 : Int64) - (yc * z3))), (.long z3)]) (fun _ kx_ => XS.lsub X0.here hx rfl (hb hby d5_39) rfl kx_) ?_
  refine W.s1 (mkF m 41 #[.val (.long yc), .second, .val (.long z3), .second] [(.long (z3 * ((2 : Int64) - (yc * z3))))]) (fun _ kx_ => XS.lmul X0.here hx rfl (hb hby d5_40) rfl kx_) ?_
  generalize hg_z4 : (z3 * ((2 : Int64) - (yc * z3))) = z4
  refine W.s1 (mkF m 42 #[.val (.long yc), .second, .val (.long z4), .second] []) (fun _ kx_ => XS.lstoreN X0.here hx rfl (hb hby d5_41) rfl (l' := #[.val (.long yc), .second, .val (.long z4), .second]) rfl kx_) ?_
  refine W.s1 (mkF m 43 #[.val (.long yc), .second, .val (.long z4), .second] [(.long z4)]) (fun _ kx_ => XS.lloadN X0.here hx rfl (hb hby d5_42) rfl kx_) ?_
  refine W.s1 (mkF m 46 #[.val (.long yc), .second, .val (.long z4), .second] [(.long (2 : Int64)), (.long z4)]) (fun _ kx_ => X0.ldc2Long hx hown (mvT hZ (hw _ (List.mem_of_getElem? (i := 28) rfl))) (g := (mkF m 43 #[.val (.long yc), .second, .val (.long z4), .second] [(.long z4)])) rfl (hb hby d5_43) _ kx_) ?_
  refine W.s1 (mkF m 47 #[.val (.long yc), .second, .val (.long z4), .second] [(.long yc), (.long (2 : Int64)), (.long z4)]) (fun _ kx_ => XS.lloadN X0.here hx rfl (hb hby d5_46) rfl kx_) ?_
  refine W.s1 (mkF m 48 #[.val (.long yc), .second, .val (.long z4), .second] [(.long z4), (.long yc), (.long (2 : Int64)), (.long z4)]) (fun _ kx_ => XS.lloadN X0.here hx rfl (hb hby d5_47) rfl kx_) ?_
  refine W.s1 (mkF m 49 #[.val (.long yc), .second, .val (.long z4), .second] [(.long (yc * z4)), (.long (2 : Int64)), (.long z4)]) (fun _ kx_ => XS.lmul X0.here hx rfl (hb hby d5_48) rfl kx_) ?_
  refine W.s1 (mkF m 50 #[.val (.long yc), .second, .val (.long z4), .second] [(.long ((2 : Int64) - (yc * z4))), (.long z4)]) (fun _ kx_ => XS.lsub X0.here hx rfl (hb hby d5_49) rfl kx_) ?_
  refine W.s1 (mkF m 51 #[.val (.long yc), .second, .val (.long z4), .second] [(.long (z4 * ((2 : Int64) - (yc * z4))))]) (fun _ kx_ => XS.lmul X0.here hx rfl (hb hby d5_50) rfl kx_) ?_
  generalize hg_z5 : (z4 * ((2 : Int64) - (yc * z4))) = z5
  refine W.s1 (mkF m 52 #[.val (.long yc), .second, .val (.long z5), .second] []) (fun _ kx_ => XS.lstoreN X0.here hx rfl (hb hby d5_51) rfl (l' := #[.val (.long yc), .second, .val (.long z5), .second]) rfl kx_) ?_
  refine W.s1 (mkF m 53 #[.val (.long yc), .second, .val (.long z5), .second] [(.long z5)]) (fun _ kx_ => XS.lloadN X0.here hx rfl (hb hby d5_52) rfl kx_) ?_
  exact W.retL X0 hx hlk Bd.returns (hb hby d5_53) (by show Q5 Z yc h0 n0 _ s₁.heap _; rw [e0]; refine ⟨?_, N0, rfl⟩; subst hg_z5 hg_z4 hg_z3 hg_z2 hg_z1; rfl) (by decide) (by decide)
theorem ef_4 (m : MethodId) (x0 : Int64) : entryFrame m #[(.long x0)] 10 = mkF m 0 #[.val (.long x0), .second, .unset, .unset, .unset, .unset, .unset, .unset, .unset, .unset] [] := by first | (simp [entryFrame, mkF, argsToLocals, Value.category]; done) | rfl
theorem d4_0 : decode method_3_code 0 = .ok (.lload_n 0, 1) := by decide +kernel
theorem d4_1 : decode method_3_code 1 = .ok (.lload_n 0, 1) := by decide +kernel
theorem d4_2 : decode method_3_code 2 = .ok (.bipush 31, 2) := by decide +kernel
theorem d4_4 : decode method_3_code 4 = .ok (.lushr, 1) := by decide +kernel
theorem d4_5 : decode method_3_code 5 = .ok (.lxor, 1) := by decide +kernel
theorem d4_6 : decode method_3_code 6 = .ok (.lload_n 0, 1) := by decide +kernel
theorem d4_7 : decode method_3_code 7 = .ok (.bipush 62, 2) := by decide +kernel
theorem d4_9 : decode method_3_code 9 = .ok (.lushr, 1) := by decide +kernel
theorem d4_10 : decode method_3_code 10 = .ok (.lxor, 1) := by decide +kernel
theorem d4_11 : decode method_3_code 11 = .ok (.lstore_n 2, 1) := by decide +kernel
theorem d4_12 : decode method_3_code 12 = .ok (.lload_n 2, 1) := by decide +kernel
theorem d4_13 : decode method_3_code 13 = .ok (.ldc2_w 9, 3) := by decide +kernel
theorem d4_16 : decode method_3_code 16 = .ok (.invokestatic 11, 3) := by decide +kernel
theorem pd_0 : parseMethodDescriptor "(J)J" = some ⟨[.long], some .long⟩ := by decide +kernel
theorem d4_19 : decode method_3_code 19 = .ok (.lmul, 1) := by decide +kernel
theorem d4_20 : decode method_3_code 20 = .ok (.lstore 4, 2) := by decide +kernel
theorem d4_22 : decode method_3_code 22 = .ok (.lload 4, 2) := by decide +kernel
theorem d4_24 : decode method_3_code 24 = .ok (.lload 4, 2) := by decide +kernel
theorem d4_26 : decode method_3_code 26 = .ok (.bipush 27, 2) := by decide +kernel
theorem d4_28 : decode method_3_code 28 = .ok (.lushr, 1) := by decide +kernel
theorem d4_29 : decode method_3_code 29 = .ok (.lxor, 1) := by decide +kernel
theorem d4_30 : decode method_3_code 30 = .ok (.lload 4, 2) := by decide +kernel
theorem d4_32 : decode method_3_code 32 = .ok (.bipush 54, 2) := by decide +kernel
theorem d4_34 : decode method_3_code 34 = .ok (.lushr, 1) := by decide +kernel
theorem d4_35 : decode method_3_code 35 = .ok (.lxor, 1) := by decide +kernel
theorem d4_36 : decode method_3_code 36 = .ok (.lstore 6, 2) := by decide +kernel
theorem d4_38 : decode method_3_code 38 = .ok (.lload 6, 2) := by decide +kernel
theorem d4_40 : decode method_3_code 40 = .ok (.ldc2_w 17, 3) := by decide +kernel
theorem d4_43 : decode method_3_code 43 = .ok (.invokestatic 11, 3) := by decide +kernel
theorem d4_46 : decode method_3_code 46 = .ok (.lmul, 1) := by decide +kernel
theorem d4_47 : decode method_3_code 47 = .ok (.lstore 8, 2) := by decide +kernel
theorem d4_49 : decode method_3_code 49 = .ok (.lload 8, 2) := by decide +kernel
theorem d4_51 : decode method_3_code 51 = .ok (.lload 8, 2) := by decide +kernel
theorem d4_53 : decode method_3_code 53 = .ok (.bipush 30, 2) := by decide +kernel
theorem d4_55 : decode method_3_code 55 = .ok (.lushr, 1) := by decide +kernel
theorem d4_56 : decode method_3_code 56 = .ok (.lxor, 1) := by decide +kernel
theorem d4_57 : decode method_3_code 57 = .ok (.lload 8, 2) := by decide +kernel
theorem d4_59 : decode method_3_code 59 = .ok (.bipush 60, 2) := by decide +kernel
theorem d4_61 : decode method_3_code 61 = .ok (.lushr, 1) := by decide +kernel
theorem d4_62 : decode method_3_code 62 = .ok (.lxor, 1) := by decide +kernel
theorem d4_63 : decode method_3_code 63 = .ok (.lreturn, 1) := by decide +kernel
def Q4 (Z : State) (yo : Int64) (h0 : Heap) (n0 : Nat) (v : Option Value) (h : Heap) (L : List Loc) : Prop := v = some (.long (own_unmix yo)) ∧ Fr n0 L ∧ h = h0
set_option maxRecDepth 65536 in
set_option maxHeartbeats 40000000 in
theorem rm4 (l : Launch) (Z : State) (a0 : Array Value) (hw : ∀ d ∈ tables_1, d.before a0 Z = true) (ws : List Jvm.Cond) (yo : Int64) (h0 : Heap) (n0 : Nat) (Z0 : n0 ≤ h0.size) :
    MetFree l (⟨"com/example/hybridge/hybridge/simulation/SplitMix64NextLongPinLaw", "unmix", "(J)J"⟩ : MethodName) (head1 (Jvm.Cond.code (⟨"com/example/hybridge/hybridge/simulation/SplitMix64NextLongPinLaw", "unmix", "(J)J"⟩ : MethodName) method_3_code 10 (some .long) :: ws) ({ frames := 1, cells := 0, slots := 0, locals := 17 } : Room)) (fun a U => a = #[(.long yo)] ∧ Z.Warmed39 U.vm ∧ U.heap = h0) (fun _ _ _ _ _ => True) (fun _ U o U' => ∃ v L, o = .returned v ∧ Q4 Z yo h0 n0 v U'.heap L ∧ FrameEnd U o U' L ({ frames := 1, cells := 0, slots := 0, locals := 17 } : Room).cells ({ frames := 1, cells := 0, slots := 0, locals := 17 } : Room).slots) := by
  refine MetFree.of_bodySF (plainFor_of_name pn_1) hisR ?_
  intro p e s m args below meth c s₁ Bd hml0 hP hK
  obtain ⟨rfl, hZ, hh⟩ := hP
  have hx := Bd.exec
  have hby := Bd.bytes
  have hml : c.maxLocals = 10 := hml0
  have hown : s.vm.findClass "com/example/hybridge/hybridge/simulation/SplitMix64NextLongPinLaw" = some m.cls := findClass_of_methodNamed Bd.named
  have hnm := (name_of_methodNamed Bd.named Bd.method).1
  have hlk : meth.locks = false := BodyLoose.notSynchronized Bd
  have X0 : Stand p l e ({ frames := 1, cells := 0, slots := 0, locals := 17 } : Room) s m #[(.long yo)] below meth c s₁ [] 0 0 := Stand.of_body Bd
  have e0 : s₁.heap = h0 := by rw [← hh, Bd.state]; rfl
  have N0 := Fr.nil n0
  show W.Gl p e below s (Q4 Z yo h0 n0) ({ frames := 1, cells := 0, slots := 0, locals := 17 } : Room).cells ({ frames := 1, cells := 0, slots := 0, locals := 17 } : Room).slots s₁ (entryFrame m #[(.long yo)] 10)
  refine W.cast (ef_4 m yo) ?_
  refine W.s1 (mkF m 1 #[.val (.long yo), .second, .unset, .unset, .unset, .unset, .unset, .unset, .unset, .unset] [(.long yo)]) (fun _ kx_ => XS.lloadN X0.here hx rfl (hb hby d4_0) rfl kx_) ?_
  refine W.s1 (mkF m 2 #[.val (.long yo), .second, .unset, .unset, .unset, .unset, .unset, .unset, .unset, .unset] [(.long yo), (.long yo)]) (fun _ kx_ => XS.lloadN X0.here hx rfl (hb hby d4_1) rfl kx_) ?_
  refine W.s1 (mkF m 4 #[.val (.long yo), .second, .unset, .unset, .unset, .unset, .unset, .unset, .unset, .unset] [(.int (31 : Int32)), (.long yo), (.long yo)]) (fun _ kx_ => XS.bipush X0.here hx rfl (hb hby d4_2) kx_) ?_
  refine W.s1 (mkF m 5 #[.val (.long yo), .second, .unset, .unset, .unset, .unset, .unset, .unset, .unset, .unset] [(.long ((yo.toUInt64 >>> ((31 : Int32) &&& 0x3f).toInt64.toUInt64).toInt64)), (.long yo)]) (fun _ kx_ => XS.lushr X0.here hx rfl (hb hby d4_4) rfl kx_) ?_
  refine W.s1 (mkF m 6 #[.val (.long yo), .second, .unset, .unset, .unset, .unset, .unset, .unset, .unset, .unset] [(.long (yo ^^^ ((yo.toUInt64 >>> ((31 : Int32) &&& 0x3f).toInt64.toUInt64).toInt64)))]) (fun _ kx_ => XS.lxor X0.here hx rfl (hb hby d4_5) rfl kx_) ?_
  refine W.s1 (mkF m 7 #[.val (.long yo), .second, .unset, .unset, .unset, .unset, .unset, .unset, .unset, .unset] [(.long yo), (.long (yo ^^^ ((yo.toUInt64 >>> ((31 : Int32) &&& 0x3f).toInt64.toUInt64).toInt64)))]) (fun _ kx_ => XS.lloadN X0.here hx rfl (hb hby d4_6) rfl kx_) ?_
  refine W.s1 (mkF m 9 #[.val (.long yo), .second, .unset, .unset, .unset, .unset, .unset, .unset, .unset, .unset] [(.int (62 : Int32)), (.long yo), (.long (yo ^^^ ((yo.toUInt64 >>> ((31 : Int32) &&& 0x3f).toInt64.toUInt64).toInt64)))]) (fun _ kx_ => XS.bipush X0.here hx rfl (hb hby d4_7) kx_) ?_
  refine W.s1 (mkF m 10 #[.val (.long yo), .second, .unset, .unset, .unset, .unset, .unset, .unset, .unset, .unset] [(.long ((yo.toUInt64 >>> ((62 : Int32) &&& 0x3f).toInt64.toUInt64).toInt64)), (.long (yo ^^^ ((yo.toUInt64 >>> ((31 : Int32) &&& 0x3f).toInt64.toUInt64).toInt64)))]) (fun _ kx_ => XS.lushr X0.here hx rfl (hb hby d4_9) rfl kx_) ?_
  refine W.s1 (mkF m 11 #[.val (.long yo), .second, .unset, .unset, .unset, .unset, .unset, .unset, .unset, .unset] [(.long ((yo ^^^ ((yo.toUInt64 >>> ((31 : Int32) &&& 0x3f).toInt64.toUInt64).toInt64)) ^^^ ((yo.toUInt64 >>> ((62 : Int32) &&& 0x3f).toInt64.toUInt64).toInt64)))]) (fun _ kx_ => XS.lxor X0.here hx rfl (hb hby d4_10) rfl kx_) ?_
  generalize hg_zz : ((yo ^^^ ((yo.toUInt64 >>> ((31 : Int32) &&& 0x3f).toInt64.toUInt64).toInt64)) ^^^ ((yo.toUInt64 >>> ((62 : Int32) &&& 0x3f).toInt64.toUInt64).toInt64)) = zz
  refine W.s1 (mkF m 12 #[.val (.long yo), .second, .val (.long zz), .second, .unset, .unset, .unset, .unset, .unset, .unset] []) (fun _ kx_ => XS.lstoreN X0.here hx rfl (hb hby d4_11) rfl (l' := #[.val (.long yo), .second, .val (.long zz), .second, .unset, .unset, .unset, .unset, .unset, .unset]) rfl kx_) ?_
  refine W.s1 (mkF m 13 #[.val (.long yo), .second, .val (.long zz), .second, .unset, .unset, .unset, .unset, .unset, .unset] [(.long zz)]) (fun _ kx_ => XS.lloadN X0.here hx rfl (hb hby d4_12) rfl kx_) ?_
  refine W.s1 (mkF m 16 #[.val (.long yo), .second, .val (.long zz), .second, .unset, .unset, .unset, .unset, .unset, .unset] [(.long (-7723592293110705685 : Int64)), (.long zz)]) (fun _ kx_ => X0.ldc2Long hx hown (mvT hZ (hw _ (List.mem_of_getElem? (i := 24) rfl))) (g := (mkF m 13 #[.val (.long yo), .second, .val (.long zz), .second, .unset, .unset, .unset, .unset, .unset, .unset] [(.long zz)])) rfl (hb hby d4_13) _ kx_) ?_
  obtain ⟨_, _, ⟨T101, L101, k101, n101⟩, -, X101, ⟨Lc101, hQ101, l101, y101, z101⟩, st101⟩ := Jvm.LawKit.callS X0 hx (y := (⟨"com/example/hybridge/hybridge/simulation/SplitMix64NextLongPinLaw", "inverse", "(J)J"⟩ : MethodName)) hown (mvT hZ (hw _ (List.mem_of_getElem? (i := 25) rfl))) (mvT hZ (hw _ (List.mem_of_getElem? (i := 26) rfl))) (mvT hZ (hw _ (List.mem_of_getElem? (i := 22) rfl))) (mvT hZ (hw _ (List.mem_of_getElem? (i := 27) rfl))) (by decide) (backOf (W := 2) (rm5 l Z a0 hw [] (-7723592293110705685 : Int64) h0 n0 Z0 ) hZ (hw _ (List.mem_of_getElem? (i := 27) rfl)) (hw _ (List.mem_of_getElem? (i := 22) rfl)) (by decide) (by decide)) (g := (mkF m 16 #[.val (.long yo), .second, .val (.long zz), .second, .unset, .unset, .unset, .unset, .unset, .unset] [(.long (-7723592293110705685 : Int64)), (.long zz)])) rfl (by rw [hml]; rfl) (argsL := [(.long (-7723592293110705685 : Int64))]) (rest := [(.long zz)]) (lenOf pd_0 rfl) rfl (by show 2 * 0 + _ ≤ _; exact Nat.le_of_eq rfl) (hb hby d4_16) (fun _ _ => ⟨rfl, e0, (by decide : 0 + 0 ≤ _), (by decide : 0 + 0 ≤ _)⟩)
  dsimp only [Pt.U, Pt.locs, Pt.cells, Pt.slots] at X101 l101 y101 z101 st101 hQ101
  subst l101 y101 z101
  obtain ⟨rfl, Nq101, eq101⟩ := hQ101
  have N101 := Fr.app N0 Nq101
  refine W.s2 (mkF m 19 #[.val (.long yo), .second, .val (.long zz), .second, .unset, .unset, .unset, .unset, .unset, .unset] [(.long (own_inv (-7723592293110705685 : Int64))), (.long zz)]) st101 ?_
  refine W.s1 (mkF m 20 #[.val (.long yo), .second, .val (.long zz), .second, .unset, .unset, .unset, .unset, .unset, .unset] [(.long (zz * (own_inv (-7723592293110705685 : Int64))))]) (fun _ kx_ => XS.lmul X101.here hx rfl (hb hby d4_19) rfl kx_) ?_
  generalize hg_zt : (zz * (own_inv (-7723592293110705685 : Int64))) = zt
  refine W.s1 (mkF m 22 #[.val (.long yo), .second, .val (.long zz), .second, .val (.long zt), .second, .unset, .unset, .unset, .unset] []) (fun _ kx_ => XS.lstore X101.here hx rfl (hb hby d4_20) rfl (l' := #[.val (.long yo), .second, .val (.long zz), .second, .val (.long zt), .second, .unset, .unset, .unset, .unset]) rfl kx_) ?_
  refine W.s1 (mkF m 24 #[.val (.long yo), .second, .val (.long zz), .second, .val (.long zt), .second, .unset, .unset, .unset, .unset] [(.long zt)]) (fun _ kx_ => XS.lload X101.here hx rfl (hb hby d4_22) rfl kx_) ?_
  refine W.s1 (mkF m 26 #[.val (.long yo), .second, .val (.long zz), .second, .val (.long zt), .second, .unset, .unset, .unset, .unset] [(.long zt), (.long zt)]) (fun _ kx_ => XS.lload X101.here hx rfl (hb hby d4_24) rfl kx_) ?_
  refine W.s1 (mkF m 28 #[.val (.long yo), .second, .val (.long zz), .second, .val (.long zt), .second, .unset, .unset, .unset, .unset] [(.int (27 : Int32)), (.long zt), (.long zt)]) (fun _ kx_ => XS.bipush X101.here hx rfl (hb hby d4_26) kx_) ?_
  refine W.s1 (mkF m 29 #[.val (.long yo), .second, .val (.long zz), .second, .val (.long zt), .second, .unset, .unset, .unset, .unset] [(.long ((zt.toUInt64 >>> ((27 : Int32) &&& 0x3f).toInt64.toUInt64).toInt64)), (.long zt)]) (fun _ kx_ => XS.lushr X101.here hx rfl (hb hby d4_28) rfl kx_) ?_
  refine W.s1 (mkF m 30 #[.val (.long yo), .second, .val (.long zz), .second, .val (.long zt), .second, .unset, .unset, .unset, .unset] [(.long (zt ^^^ ((zt.toUInt64 >>> ((27 : Int32) &&& 0x3f).toInt64.toUInt64).toInt64)))]) (fun _ kx_ => XS.lxor X101.here hx rfl (hb hby d4_29) rfl kx_) ?_
  refine W.s1 (mkF m 32 #[.val (.long yo), .second, .val (.long zz), .second, .val (.long zt), .second, .unset, .unset, .unset, .unset] [(.long zt), (.long (zt ^^^ ((zt.toUInt64 >>> ((27 : Int32) &&& 0x3f).toInt64.toUInt64).toInt64)))]) (fun _ kx_ => XS.lload X101.here hx rfl (hb hby d4_30) rfl kx_) ?_
  refine W.s1 (mkF m 34 #[.val (.long yo), .second, .val (.long zz), .second, .val (.long zt), .second, .unset, .unset, .unset, .unset] [(.int (54 : Int32)), (.long zt), (.long (zt ^^^ ((zt.toUInt64 >>> ((27 : Int32) &&& 0x3f).toInt64.toUInt64).toInt64)))]) (fun _ kx_ => XS.bipush X101.here hx rfl (hb hby d4_32) kx_) ?_
  refine W.s1 (mkF m 35 #[.val (.long yo), .second, .val (.long zz), .second, .val (.long zt), .second, .unset, .unset, .unset, .unset] [(.long ((zt.toUInt64 >>> ((54 : Int32) &&& 0x3f).toInt64.toUInt64).toInt64)), (.long (zt ^^^ ((zt.toUInt64 >>> ((27 : Int32) &&& 0x3f).toInt64.toUInt64).toInt64)))]) (fun _ kx_ => XS.lushr X101.here hx rfl (hb hby d4_34) rfl kx_) ?_
  refine W.s1 (mkF m 36 #[.val (.long yo), .second, .val (.long zz), .second, .val (.long zt), .second, .unset, .unset, .unset, .unset] [(.long ((zt ^^^ ((zt.toUInt64 >>> ((27 : Int32) &&& 0x3f).toInt64.toUInt64).toInt64)) ^^^ ((zt.toUInt64 >>> ((54 : Int32) &&& 0x3f).toInt64.toUInt64).toInt64)))]) (fun _ kx_ => XS.lxor X101.here hx rfl (hb hby d4_35) rfl kx_) ?_
  generalize hg_zw : ((zt ^^^ ((zt.toUInt64 >>> ((27 : Int32) &&& 0x3f).toInt64.toUInt64).toInt64)) ^^^ ((zt.toUInt64 >>> ((54 : Int32) &&& 0x3f).toInt64.toUInt64).toInt64)) = zw
  refine W.s1 (mkF m 38 #[.val (.long yo), .second, .val (.long zz), .second, .val (.long zt), .second, .val (.long zw), .second, .unset, .unset] []) (fun _ kx_ => XS.lstore X101.here hx rfl (hb hby d4_36) rfl (l' := #[.val (.long yo), .second, .val (.long zz), .second, .val (.long zt), .second, .val (.long zw), .second, .unset, .unset]) rfl kx_) ?_
  refine W.s1 (mkF m 40 #[.val (.long yo), .second, .val (.long zz), .second, .val (.long zt), .second, .val (.long zw), .second, .unset, .unset] [(.long zw)]) (fun _ kx_ => XS.lload X101.here hx rfl (hb hby d4_38) rfl kx_) ?_
  refine W.s1 (mkF m 43 #[.val (.long yo), .second, .val (.long zz), .second, .val (.long zt), .second, .val (.long zw), .second, .unset, .unset] [(.long (-4658895280553007687 : Int64)), (.long zw)]) (fun _ kx_ => X101.ldc2Long hx hown (mvT hZ (hw _ (List.mem_of_getElem? (i := 29) rfl))) (g := (mkF m 40 #[.val (.long yo), .second, .val (.long zz), .second, .val (.long zt), .second, .val (.long zw), .second, .unset, .unset] [(.long zw)])) rfl (hb hby d4_40) _ kx_) ?_
  obtain ⟨_, _, ⟨T102, L102, k102, n102⟩, -, X102, ⟨Lc102, hQ102, l102, y102, z102⟩, st102⟩ := Jvm.LawKit.callS X101 hx (y := (⟨"com/example/hybridge/hybridge/simulation/SplitMix64NextLongPinLaw", "inverse", "(J)J"⟩ : MethodName)) hown (mvT hZ (hw _ (List.mem_of_getElem? (i := 25) rfl))) (mvT hZ (hw _ (List.mem_of_getElem? (i := 26) rfl))) (mvT hZ (hw _ (List.mem_of_getElem? (i := 22) rfl))) (mvT hZ (hw _ (List.mem_of_getElem? (i := 27) rfl))) (by decide) (backOf (W := 2) (rm5 l Z a0 hw [] (-4658895280553007687 : Int64) h0 n0 Z0 ) hZ (hw _ (List.mem_of_getElem? (i := 27) rfl)) (hw _ (List.mem_of_getElem? (i := 22) rfl)) (by decide) (by decide)) (g := (mkF m 43 #[.val (.long yo), .second, .val (.long zz), .second, .val (.long zt), .second, .val (.long zw), .second, .unset, .unset] [(.long (-4658895280553007687 : Int64)), (.long zw)])) rfl (by rw [hml]; rfl) (argsL := [(.long (-4658895280553007687 : Int64))]) (rest := [(.long zw)]) (lenOf pd_0 rfl) rfl (by show 2 * 0 + _ ≤ _; exact Nat.le_of_eq rfl) (hb hby d4_43) (fun _ _ => ⟨rfl, eq101, (by decide : 0 + 0 ≤ _), (by decide : 0 + 0 ≤ _)⟩)
  dsimp only [Pt.U, Pt.locs, Pt.cells, Pt.slots] at X102 l102 y102 z102 st102 hQ102
  subst l102 y102 z102
  obtain ⟨rfl, Nq102, eq102⟩ := hQ102
  have N102 := Fr.app N101 Nq102
  refine W.s2 (mkF m 46 #[.val (.long yo), .second, .val (.long zz), .second, .val (.long zt), .second, .val (.long zw), .second, .unset, .unset] [(.long (own_inv (-4658895280553007687 : Int64))), (.long zw)]) st102 ?_
  refine W.s1 (mkF m 47 #[.val (.long yo), .second, .val (.long zz), .second, .val (.long zt), .second, .val (.long zw), .second, .unset, .unset] [(.long (zw * (own_inv (-4658895280553007687 : Int64))))]) (fun _ kx_ => XS.lmul X102.here hx rfl (hb hby d4_46) rfl kx_) ?_
  generalize hg_zu : (zw * (own_inv (-4658895280553007687 : Int64))) = zu
  refine W.s1 (mkF m 49 #[.val (.long yo), .second, .val (.long zz), .second, .val (.long zt), .second, .val (.long zw), .second, .val (.long zu), .second] []) (fun _ kx_ => XS.lstore X102.here hx rfl (hb hby d4_47) rfl (l' := #[.val (.long yo), .second, .val (.long zz), .second, .val (.long zt), .second, .val (.long zw), .second, .val (.long zu), .second]) rfl kx_) ?_
  refine W.s1 (mkF m 51 #[.val (.long yo), .second, .val (.long zz), .second, .val (.long zt), .second, .val (.long zw), .second, .val (.long zu), .second] [(.long zu)]) (fun _ kx_ => XS.lload X102.here hx rfl (hb hby d4_49) rfl kx_) ?_
  refine W.s1 (mkF m 53 #[.val (.long yo), .second, .val (.long zz), .second, .val (.long zt), .second, .val (.long zw), .second, .val (.long zu), .second] [(.long zu), (.long zu)]) (fun _ kx_ => XS.lload X102.here hx rfl (hb hby d4_51) rfl kx_) ?_
  refine W.s1 (mkF m 55 #[.val (.long yo), .second, .val (.long zz), .second, .val (.long zt), .second, .val (.long zw), .second, .val (.long zu), .second] [(.int (30 : Int32)), (.long zu), (.long zu)]) (fun _ kx_ => XS.bipush X102.here hx rfl (hb hby d4_53) kx_) ?_
  refine W.s1 (mkF m 56 #[.val (.long yo), .second, .val (.long zz), .second, .val (.long zt), .second, .val (.long zw), .second, .val (.long zu), .second] [(.long ((zu.toUInt64 >>> ((30 : Int32) &&& 0x3f).toInt64.toUInt64).toInt64)), (.long zu)]) (fun _ kx_ => XS.lushr X102.here hx rfl (hb hby d4_55) rfl kx_) ?_
  refine W.s1 (mkF m 57 #[.val (.long yo), .second, .val (.long zz), .second, .val (.long zt), .second, .val (.long zw), .second, .val (.long zu), .second] [(.long (zu ^^^ ((zu.toUInt64 >>> ((30 : Int32) &&& 0x3f).toInt64.toUInt64).toInt64)))]) (fun _ kx_ => XS.lxor X102.here hx rfl (hb hby d4_56) rfl kx_) ?_
  refine W.s1 (mkF m 59 #[.val (.long yo), .second, .val (.long zz), .second, .val (.long zt), .second, .val (.long zw), .second, .val (.long zu), .second] [(.long zu), (.long (zu ^^^ ((zu.toUInt64 >>> ((30 : Int32) &&& 0x3f).toInt64.toUInt64).toInt64)))]) (fun _ kx_ => XS.lload X102.here hx rfl (hb hby d4_57) rfl kx_) ?_
  refine W.s1 (mkF m 61 #[.val (.long yo), .second, .val (.long zz), .second, .val (.long zt), .second, .val (.long zw), .second, .val (.long zu), .second] [(.int (60 : Int32)), (.long zu), (.long (zu ^^^ ((zu.toUInt64 >>> ((30 : Int32) &&& 0x3f).toInt64.toUInt64).toInt64)))]) (fun _ kx_ => XS.bipush X102.here hx rfl (hb hby d4_59) kx_) ?_
  refine W.s1 (mkF m 62 #[.val (.long yo), .second, .val (.long zz), .second, .val (.long zt), .second, .val (.long zw), .second, .val (.long zu), .second] [(.long ((zu.toUInt64 >>> ((60 : Int32) &&& 0x3f).toInt64.toUInt64).toInt64)), (.long (zu ^^^ ((zu.toUInt64 >>> ((30 : Int32) &&& 0x3f).toInt64.toUInt64).toInt64)))]) (fun _ kx_ => XS.lushr X102.here hx rfl (hb hby d4_61) rfl kx_) ?_
  refine W.s1 (mkF m 63 #[.val (.long yo), .second, .val (.long zz), .second, .val (.long zt), .second, .val (.long zw), .second, .val (.long zu), .second] [(.long ((zu ^^^ ((zu.toUInt64 >>> ((30 : Int32) &&& 0x3f).toInt64.toUInt64).toInt64)) ^^^ ((zu.toUInt64 >>> ((60 : Int32) &&& 0x3f).toInt64.toUInt64).toInt64)))]) (fun _ kx_ => XS.lxor X102.here hx rfl (hb hby d4_62) rfl kx_) ?_
  exact W.retL X102 hx hlk Bd.returns (hb hby d4_63) (by show Q4 Z yo h0 n0 _ T102.heap _; rw [eq102]; refine ⟨?_, N102, rfl⟩; subst hg_zu hg_zw hg_zt hg_zz; rfl) (by decide) (by decide)
theorem ef_0 (m : MethodId) (x0 : Int64) : entryFrame m #[(.long x0)] maxLocals = mkF m 0 #[.val (.long x0), .second, .unset, .unset, .unset, .unset, .unset, .unset, .unset] [] := by first | (simp [entryFrame, mkF, argsToLocals, Value.category, maxLocals]; done) | rfl
theorem pd_1 : parseMethodDescriptor "(J)V" = some ⟨[.long], none⟩ := by decide +kernel
theorem pd_2 : parseMethodDescriptor "()J" = some ⟨[], some .long⟩ := by decide +kernel
def Q0 (Z : State) (ys : Int64) (h0 : Heap) (n0 : Nat) (v : Option Value) (h : Heap) (L : List Loc) : Prop := v = some (.int 1) ∧ Fr n0 L
set_option maxRecDepth 65536 in
set_option maxHeartbeats 40000000 in
theorem rm0 (l : Launch) (Z : State) (a0 : Array Value) (hw : ∀ d ∈ tables_1, d.before a0 Z = true) (ws : List Jvm.Cond) (ys : Int64) (h0 : Heap) (n0 : Nat) (Z0 : n0 ≤ h0.size) :
    MetFree l x (head1 (Jvm.Cond.code x code maxLocals ret :: ws) room_1) (fun a U => a = #[(.long ys)] ∧ Z.Warmed39 U.vm ∧ U.heap = h0) (fun _ _ _ _ _ => True) (fun _ U o U' => ∃ v L, o = .returned v ∧ Q0 Z ys h0 n0 v U'.heap L ∧ FrameEnd U o U' L 16 128) := by
  refine MetFree.of_bodySF (plainFor_of_name pn_1) hisR ?_
  intro p e s m args below meth c s₁ Bd hml0 hP hK
  obtain ⟨rfl, hZ, hh⟩ := hP
  have hx := Bd.exec
  have hby := Bd.bytes
  have hml : c.maxLocals = 9 := hml0
  have hown : s.vm.findClass "com/example/hybridge/hybridge/simulation/SplitMix64NextLongPinLaw" = some m.cls := findClass_of_methodNamed Bd.named
  have hnm := (name_of_methodNamed Bd.named Bd.method).1
  have hlk : meth.locks = false := BodyLoose.notSynchronized Bd
  have X0 : Stand p l e room_1 s m #[(.long ys)] below meth c s₁ [] 0 0 := Stand.of_body Bd
  have e0 : s₁.heap = h0 := by rw [← hh, Bd.state]; rfl
  have N0 := Fr.nil n0
  show W.Gl p e below s (Q0 Z ys h0 n0) 16 128 s₁ (entryFrame m #[(.long ys)] maxLocals)
  refine W.cast (ef_0 m ys) ?_
  refine W.s1 (mkF m 3 #[.val (.long ys), .second, .unset, .unset, .unset, .unset, .unset, .unset, .unset] [(.long (-7046029254386353131 : Int64))]) (fun _ kx_ => X0.ldc2Long hx hown (mvT hZ (hw _ (List.mem_of_getElem? (i := 0) rfl))) (g := (mkF m 0 #[.val (.long ys), .second, .unset, .unset, .unset, .unset, .unset, .unset, .unset] [])) rfl (hb hby at_0) _ kx_) ?_
  refine W.s1 (mkF m 4 #[.val (.long ys), .second, .val (.long (-7046029254386353131 : Int64)), .second, .unset, .unset, .unset, .unset, .unset] []) (fun _ kx_ => XS.lstoreN X0.here hx rfl (hb hby at_3) rfl (l' := #[.val (.long ys), .second, .val (.long (-7046029254386353131 : Int64)), .second, .unset, .unset, .unset, .unset, .unset]) rfl kx_) ?_
  refine W.newo X0 hx hZ hown (hw _ (List.mem_of_getElem? (i := 1) rfl)) (hw _ (List.mem_of_getElem? (i := 2) rfl)) (hw _ (List.mem_of_getElem? (i := 3) rfl)) e0 (hb hby at_4) (by decide) (by decide) (pc' := 7) rfl (fun T101 h101 b101 X101 e101 E101 g101 A101 D101 => ?_)
  have ge101 : n0 ≤ b101 := Nat.le_trans Z0 (Nat.le_of_eq g101.symm)
  have Z101 : n0 ≤ h101.size := Nat.le_trans Z0 E101.1
  have f102 : Fld Z h101 b101 "com/example/hybridge/hybridge/simulation/SplitMix64" "state" "J" (.long (0 : Int64)) := D101 (Or.inl (hw _ (List.mem_of_getElem? (i := 11) rfl))) (ty := .long) (by decide)
  refine W.s1 (mkF m 8 #[.val (.long ys), .second, .val (.long (-7046029254386353131 : Int64)), .second, .unset, .unset, .unset, .unset, .unset] [(.ref b101), (.ref b101)]) (fun _ kx_ => XS.dup X101.here hx rfl (hb hby at_7) rfl rfl kx_) ?_
  refine W.s1 (mkF m 9 #[.val (.long ys), .second, .val (.long (-7046029254386353131 : Int64)), .second, .unset, .unset, .unset, .unset, .unset] [(.long ys), (.ref b101), (.ref b101)]) (fun _ kx_ => XS.lloadN X101.here hx rfl (hb hby at_8) rfl kx_) ?_
  obtain ⟨_, _, ⟨T103, L103, k103, n103⟩, -, X103, ⟨Lc103, hQ103, l103, y103, z103⟩, st103⟩ := X101.specialBack hx (y := (⟨"com/example/hybridge/hybridge/simulation/SplitMix64", "<init>", "(J)V"⟩ : MethodName)) rfl hown (mvT hZ (hw _ (List.mem_of_getElem? (i := 4) rfl))) (mvT hZ (hw _ (List.mem_of_getElem? (i := 5) rfl))) (mvT hZ (hw _ (List.mem_of_getElem? (i := 6) rfl))) (by decide) (backOf (W := 1) (rm1 l Z a0 hw [] b101 ys (.long (0 : Int64)) h101 n0 Z101 f102 A101 ge101) hZ (hw _ (List.mem_of_getElem? (i := 6) rfl)) (hw _ (List.mem_of_getElem? (i := 3) rfl)) (by decide) (by decide)) (g := (mkF m 9 #[.val (.long ys), .second, .val (.long (-7046029254386353131 : Int64)), .second, .unset, .unset, .unset, .unset, .unset] [(.long ys), (.ref b101), (.ref b101)])) rfl (by rw [hml]; rfl) (Steps.refl _) (a := b101) (argsL := [(.long ys)]) (rest := [(.ref b101)]) (lenOf pd_1 rfl) rfl (by show 2 * 0 + _ ≤ _; exact Nat.le_of_eq rfl) (hb hby at_9) (fun _ _ => ⟨rfl, e101, (by decide : 1 + 0 ≤ _), (by decide : 1 + 0 ≤ _)⟩)
  dsimp only [Pt.U, Pt.locs, Pt.cells, Pt.slots] at X103 l103 y103 z103 st103 hQ103
  subst l103 y103 z103
  obtain ⟨h103, e103⟩ : ∃ z, T103.heap = z := ⟨_, rfl⟩
  rw [e103] at hQ103
  obtain ⟨rfl, Nq103, Kq103, F103⟩ := hQ103
  have N103 := Fr.app N0 Nq103
  have Z103 : n0 ≤ h103.size := Nat.le_trans Z101 Kq103.1
  have f104 := A101.keep Kq103
  refine W.s3 (mkF m 12 #[.val (.long ys), .second, .val (.long (-7046029254386353131 : Int64)), .second, .unset, .unset, .unset, .unset, .unset] [(.ref b101)]) st103 ?_
  refine W.s1 (mkF m 14 #[.val (.long ys), .second, .val (.long (-7046029254386353131 : Int64)), .second, .val (.ref b101), .unset, .unset, .unset, .unset] []) (fun _ kx_ => XS.astore X103.here hx rfl (hb hby at_12) rfl rfl (l' := #[.val (.long ys), .second, .val (.long (-7046029254386353131 : Int64)), .second, .val (.ref b101), .unset, .unset, .unset, .unset]) rfl kx_) ?_
  refine W.s1 (mkF m 16 #[.val (.long ys), .second, .val (.long (-7046029254386353131 : Int64)), .second, .val (.ref b101), .unset, .unset, .unset, .unset] [(.ref b101)]) (fun _ kx_ => XS.aload X103.here hx rfl (hb hby at_14) rfl rfl kx_) ?_
  obtain ⟨cq106, kq106, q106a, q106b, q106c⟩ := isOf hZ e103 f104
  obtain ⟨_, _, ⟨T106, L106, k106, n106⟩, -, X106, ⟨Lc106, hQ106, l106, y106, z106⟩, st106⟩ := X103.virtualBack hx (y := (⟨"com/example/hybridge/hybridge/simulation/SplitMix64", "nextLong", "()J"⟩ : MethodName)) (z := (⟨"com/example/hybridge/hybridge/simulation/SplitMix64", "nextLong", "()J"⟩ : MethodName)) hown (mvT hZ (hw _ (List.mem_of_getElem? (i := 12) rfl))) (mvT hZ (hw _ (List.mem_of_getElem? (i := 13) rfl))) (notFace_of_selects (args := #[]) (mvT hZ (hw _ (List.mem_of_getElem? (i := 15) rfl)))) (mvT hZ (hw _ (List.mem_of_getElem? (i := 15) rfl))) (mvT hZ (hw _ (List.mem_of_getElem? (i := 14) rfl))) (by decide) (backOf (W := 0) (rm3 l Z a0 hw [] b101 ys h103 n0 Z103 F103 f104 ge101) hZ (hw _ (List.mem_of_getElem? (i := 16) rfl)) (hw _ (List.mem_of_getElem? (i := 3) rfl)) (by decide) (by decide)) q106a q106c (g := (mkF m 16 #[.val (.long ys), .second, .val (.long (-7046029254386353131 : Int64)), .second, .val (.ref b101), .unset, .unset, .unset, .unset] [(.ref b101)])) rfl (by rw [hml]; rfl) (Steps.refl _) (argsL := []) (rest := []) (lenOf pd_2 rfl) rfl (by show 2 * 0 + _ ≤ _; exact Nat.le_of_eq rfl) (hb hby at_16) (fun _ _ => ⟨rfl, e103, (by decide : 1 + 0 ≤ _), (by decide : 1 + 0 ≤ _)⟩)
  dsimp only [Pt.U, Pt.locs, Pt.cells, Pt.slots] at X106 l106 y106 z106 st106 hQ106
  subst l106 y106 z106
  obtain ⟨h106, e106⟩ : ∃ z, T106.heap = z := ⟨_, rfl⟩
  rw [e106] at hQ106
  obtain ⟨rfl, Nq106, Kq106, F106⟩ := hQ106
  have N106 := Fr.app N103 Nq106
  have Z106 : n0 ≤ h106.size := Nat.le_trans Z103 Kq106.1
  have f107 := f104.keep Kq106
  refine W.s3 (mkF m 19 #[.val (.long ys), .second, .val (.long (-7046029254386353131 : Int64)), .second, .val (.ref b101), .unset, .unset, .unset, .unset] [(.long (own_mix (ys + (-7046029254386353131 : Int64))))]) st106 ?_
  refine W.s1 (mkF m 21 #[.val (.long ys), .second, .val (.long (-7046029254386353131 : Int64)), .second, .val (.ref b101), .val (.long (own_mix (ys + (-7046029254386353131 : Int64)))), .second, .unset, .unset] []) (fun _ kx_ => XS.lstore X106.here hx rfl (hb hby at_19) rfl (l' := #[.val (.long ys), .second, .val (.long (-7046029254386353131 : Int64)), .second, .val (.ref b101), .val (.long (own_mix (ys + (-7046029254386353131 : Int64)))), .second, .unset, .unset]) rfl kx_) ?_
  refine W.s1 (mkF m 23 #[.val (.long ys), .second, .val (.long (-7046029254386353131 : Int64)), .second, .val (.ref b101), .val (.long (own_mix (ys + (-7046029254386353131 : Int64)))), .second, .unset, .unset] [(.ref b101)]) (fun _ kx_ => XS.aload X106.here hx rfl (hb hby at_21) rfl rfl kx_) ?_
  obtain ⟨cq109, kq109, q109a, q109b, q109c⟩ := isOf hZ e106 f107
  obtain ⟨_, _, ⟨T109, L109, k109, n109⟩, -, X109, ⟨Lc109, hQ109, l109, y109, z109⟩, st109⟩ := X106.virtualBack hx (y := (⟨"com/example/hybridge/hybridge/simulation/SplitMix64", "nextLong", "()J"⟩ : MethodName)) (z := (⟨"com/example/hybridge/hybridge/simulation/SplitMix64", "nextLong", "()J"⟩ : MethodName)) hown (mvT hZ (hw _ (List.mem_of_getElem? (i := 12) rfl))) (mvT hZ (hw _ (List.mem_of_getElem? (i := 13) rfl))) (notFace_of_selects (args := #[]) (mvT hZ (hw _ (List.mem_of_getElem? (i := 15) rfl)))) (mvT hZ (hw _ (List.mem_of_getElem? (i := 15) rfl))) (mvT hZ (hw _ (List.mem_of_getElem? (i := 14) rfl))) (by decide) (backOf (W := 0) (rm3 l Z a0 hw [] b101 (ys + (-7046029254386353131 : Int64)) h106 n0 Z106 F106 f107 ge101) hZ (hw _ (List.mem_of_getElem? (i := 16) rfl)) (hw _ (List.mem_of_getElem? (i := 3) rfl)) (by decide) (by decide)) q109a q109c (g := (mkF m 23 #[.val (.long ys), .second, .val (.long (-7046029254386353131 : Int64)), .second, .val (.ref b101), .val (.long (own_mix (ys + (-7046029254386353131 : Int64)))), .second, .unset, .unset] [(.ref b101)])) rfl (by rw [hml]; rfl) (Steps.refl _) (argsL := []) (rest := []) (lenOf pd_2 rfl) rfl (by show 2 * 0 + _ ≤ _; exact Nat.le_of_eq rfl) (hb hby at_23) (fun _ _ => ⟨rfl, e106, (by decide : 1 + 0 ≤ _), (by decide : 1 + 0 ≤ _)⟩)
  dsimp only [Pt.U, Pt.locs, Pt.cells, Pt.slots] at X109 l109 y109 z109 st109 hQ109
  subst l109 y109 z109
  obtain ⟨h109, e109⟩ : ∃ z, T109.heap = z := ⟨_, rfl⟩
  rw [e109] at hQ109
  obtain ⟨rfl, Nq109, Kq109, F109⟩ := hQ109
  have N109 := Fr.app N106 Nq109
  have Z109 : n0 ≤ h109.size := Nat.le_trans Z106 Kq109.1
  have f110 := f107.keep Kq109
  refine W.s3 (mkF m 26 #[.val (.long ys), .second, .val (.long (-7046029254386353131 : Int64)), .second, .val (.ref b101), .val (.long (own_mix (ys + (-7046029254386353131 : Int64)))), .second, .unset, .unset] [(.long (own_mix ((ys + (-7046029254386353131 : Int64)) + (-7046029254386353131 : Int64))))]) st109 ?_
  refine W.s1 (mkF m 28 #[.val (.long ys), .second, .val (.long (-7046029254386353131 : Int64)), .second, .val (.ref b101), .val (.long (own_mix (ys + (-7046029254386353131 : Int64)))), .second, .val (.long (own_mix ((ys + (-7046029254386353131 : Int64)) + (-7046029254386353131 : Int64)))), .second] []) (fun _ kx_ => XS.lstore X109.here hx rfl (hb hby at_26) rfl (l' := #[.val (.long ys), .second, .val (.long (-7046029254386353131 : Int64)), .second, .val (.ref b101), .val (.long (own_mix (ys + (-7046029254386353131 : Int64)))), .second, .val (.long (own_mix ((ys + (-7046029254386353131 : Int64)) + (-7046029254386353131 : Int64)))), .second]) rfl kx_) ?_
  refine W.s1 (mkF m 30 #[.val (.long ys), .second, .val (.long (-7046029254386353131 : Int64)), .second, .val (.ref b101), .val (.long (own_mix (ys + (-7046029254386353131 : Int64)))), .second, .val (.long (own_mix ((ys + (-7046029254386353131 : Int64)) + (-7046029254386353131 : Int64)))), .second] [(.long (own_mix (ys + (-7046029254386353131 : Int64))))]) (fun _ kx_ => XS.lload X109.here hx rfl (hb hby at_28) rfl kx_) ?_
  obtain ⟨_, _, ⟨T112, L112, k112, n112⟩, -, X112, ⟨Lc112, hQ112, l112, y112, z112⟩, st112⟩ := Jvm.LawKit.callS X109 hx (y := (⟨"com/example/hybridge/hybridge/simulation/SplitMix64NextLongPinLaw", "unmix", "(J)J"⟩ : MethodName)) hown (mvT hZ (hw _ (List.mem_of_getElem? (i := 20) rfl))) (mvT hZ (hw _ (List.mem_of_getElem? (i := 21) rfl))) (mvT hZ (hw _ (List.mem_of_getElem? (i := 22) rfl))) (mvT hZ (hw _ (List.mem_of_getElem? (i := 23) rfl))) (by decide) (backOf (W := 0) (rm4 l Z a0 hw [] (own_mix (ys + (-7046029254386353131 : Int64))) h109 n0 Z109 ) hZ (hw _ (List.mem_of_getElem? (i := 23) rfl)) (hw _ (List.mem_of_getElem? (i := 22) rfl)) (by decide) (by decide)) (g := (mkF m 30 #[.val (.long ys), .second, .val (.long (-7046029254386353131 : Int64)), .second, .val (.ref b101), .val (.long (own_mix (ys + (-7046029254386353131 : Int64)))), .second, .val (.long (own_mix ((ys + (-7046029254386353131 : Int64)) + (-7046029254386353131 : Int64)))), .second] [(.long (own_mix (ys + (-7046029254386353131 : Int64))))])) rfl (by rw [hml]; rfl) (argsL := [(.long (own_mix (ys + (-7046029254386353131 : Int64))))]) (rest := []) (lenOf pd_0 rfl) rfl (by show 2 * 0 + _ ≤ _; exact Nat.le_of_eq rfl) (hb hby at_30) (fun _ _ => ⟨rfl, e109, (by decide : 1 + 0 ≤ _), (by decide : 1 + 0 ≤ _)⟩)
  dsimp only [Pt.U, Pt.locs, Pt.cells, Pt.slots] at X112 l112 y112 z112 st112 hQ112
  subst l112 y112 z112
  obtain ⟨rfl, Nq112, eq112⟩ := hQ112
  have N112 := Fr.app N109 Nq112
  refine W.s2 (mkF m 33 #[.val (.long ys), .second, .val (.long (-7046029254386353131 : Int64)), .second, .val (.ref b101), .val (.long (own_mix (ys + (-7046029254386353131 : Int64)))), .second, .val (.long (own_mix ((ys + (-7046029254386353131 : Int64)) + (-7046029254386353131 : Int64)))), .second] [(.long (own_unmix (own_mix (ys + (-7046029254386353131 : Int64)))))]) st112 ?_
  refine W.s1 (mkF m 34 #[.val (.long ys), .second, .val (.long (-7046029254386353131 : Int64)), .second, .val (.ref b101), .val (.long (own_mix (ys + (-7046029254386353131 : Int64)))), .second, .val (.long (own_mix ((ys + (-7046029254386353131 : Int64)) + (-7046029254386353131 : Int64)))), .second] [(.long ys), (.long (own_unmix (own_mix (ys + (-7046029254386353131 : Int64)))))]) (fun _ kx_ => XS.lloadN X112.here hx rfl (hb hby at_33) rfl kx_) ?_
  refine W.s1 (mkF m 35 #[.val (.long ys), .second, .val (.long (-7046029254386353131 : Int64)), .second, .val (.ref b101), .val (.long (own_mix (ys + (-7046029254386353131 : Int64)))), .second, .val (.long (own_mix ((ys + (-7046029254386353131 : Int64)) + (-7046029254386353131 : Int64)))), .second] [(.long (-7046029254386353131 : Int64)), (.long ys), (.long (own_unmix (own_mix (ys + (-7046029254386353131 : Int64)))))]) (fun _ kx_ => XS.lloadN X112.here hx rfl (hb hby at_34) rfl kx_) ?_
  refine W.s1 (mkF m 36 #[.val (.long ys), .second, .val (.long (-7046029254386353131 : Int64)), .second, .val (.ref b101), .val (.long (own_mix (ys + (-7046029254386353131 : Int64)))), .second, .val (.long (own_mix ((ys + (-7046029254386353131 : Int64)) + (-7046029254386353131 : Int64)))), .second] [(.long (ys + (-7046029254386353131 : Int64))), (.long (own_unmix (own_mix (ys + (-7046029254386353131 : Int64)))))]) (fun _ kx_ => XS.ladd X112.here hx rfl (hb hby at_35) rfl kx_) ?_
  refine W.lif X112 hx (hb hby at_36) (pc1 := 37) rfl (hb hby at_37) (pc' := 58) (pc'' := 40) (by decide) (by decide) rfl (fun (c37 : ¬ (own_unmix (own_mix (ys + (-7046029254386353131 : Int64)))) = (ys + (-7046029254386353131 : Int64))) => ?_) (fun (c37 : (own_unmix (own_mix (ys + (-7046029254386353131 : Int64)))) = (ys + (-7046029254386353131 : Int64))) => ?_)
  · exact absurd (own_law _) c37
  · refine W.s1 (mkF m 42 #[.val (.long ys), .second, .val (.long (-7046029254386353131 : Int64)), .second, .val (.ref b101), .val (.long (own_mix (ys + (-7046029254386353131 : Int64)))), .second, .val (.long (own_mix ((ys + (-7046029254386353131 : Int64)) + (-7046029254386353131 : Int64)))), .second] [(.long (own_mix ((ys + (-7046029254386353131 : Int64)) + (-7046029254386353131 : Int64))))]) (fun _ kx_ => XS.lload X112.here hx rfl (hb hby at_40) rfl kx_) ?_
    obtain ⟨_, _, ⟨T113, L113, k113, n113⟩, -, X113, ⟨Lc113, hQ113, l113, y113, z113⟩, st113⟩ := Jvm.LawKit.callS X112 hx (y := (⟨"com/example/hybridge/hybridge/simulation/SplitMix64NextLongPinLaw", "unmix", "(J)J"⟩ : MethodName)) hown (mvT hZ (hw _ (List.mem_of_getElem? (i := 20) rfl))) (mvT hZ (hw _ (List.mem_of_getElem? (i := 21) rfl))) (mvT hZ (hw _ (List.mem_of_getElem? (i := 22) rfl))) (mvT hZ (hw _ (List.mem_of_getElem? (i := 23) rfl))) (by decide) (backOf (W := 0) (rm4 l Z a0 hw [] (own_mix ((ys + (-7046029254386353131 : Int64)) + (-7046029254386353131 : Int64))) h109 n0 Z109 ) hZ (hw _ (List.mem_of_getElem? (i := 23) rfl)) (hw _ (List.mem_of_getElem? (i := 22) rfl)) (by decide) (by decide)) (g := (mkF m 42 #[.val (.long ys), .second, .val (.long (-7046029254386353131 : Int64)), .second, .val (.ref b101), .val (.long (own_mix (ys + (-7046029254386353131 : Int64)))), .second, .val (.long (own_mix ((ys + (-7046029254386353131 : Int64)) + (-7046029254386353131 : Int64)))), .second] [(.long (own_mix ((ys + (-7046029254386353131 : Int64)) + (-7046029254386353131 : Int64))))])) rfl (by rw [hml]; rfl) (argsL := [(.long (own_mix ((ys + (-7046029254386353131 : Int64)) + (-7046029254386353131 : Int64))))]) (rest := []) (lenOf pd_0 rfl) rfl (by show 2 * 0 + _ ≤ _; exact Nat.le_of_eq rfl) (hb hby at_42) (fun _ _ => ⟨rfl, eq112, (by decide : 1 + 0 ≤ _), (by decide : 1 + 0 ≤ _)⟩)
    dsimp only [Pt.U, Pt.locs, Pt.cells, Pt.slots] at X113 l113 y113 z113 st113 hQ113
    subst l113 y113 z113
    obtain ⟨rfl, Nq113, eq113⟩ := hQ113
    have N113 := Fr.app N112 Nq113
    refine W.s2 (mkF m 45 #[.val (.long ys), .second, .val (.long (-7046029254386353131 : Int64)), .second, .val (.ref b101), .val (.long (own_mix (ys + (-7046029254386353131 : Int64)))), .second, .val (.long (own_mix ((ys + (-7046029254386353131 : Int64)) + (-7046029254386353131 : Int64)))), .second] [(.long (own_unmix (own_mix ((ys + (-7046029254386353131 : Int64)) + (-7046029254386353131 : Int64)))))]) st113 ?_
    refine W.s1 (mkF m 46 #[.val (.long ys), .second, .val (.long (-7046029254386353131 : Int64)), .second, .val (.ref b101), .val (.long (own_mix (ys + (-7046029254386353131 : Int64)))), .second, .val (.long (own_mix ((ys + (-7046029254386353131 : Int64)) + (-7046029254386353131 : Int64)))), .second] [(.long ys), (.long (own_unmix (own_mix ((ys + (-7046029254386353131 : Int64)) + (-7046029254386353131 : Int64)))))]) (fun _ kx_ => XS.lloadN X113.here hx rfl (hb hby at_45) rfl kx_) ?_
    refine W.s1 (mkF m 47 #[.val (.long ys), .second, .val (.long (-7046029254386353131 : Int64)), .second, .val (.ref b101), .val (.long (own_mix (ys + (-7046029254386353131 : Int64)))), .second, .val (.long (own_mix ((ys + (-7046029254386353131 : Int64)) + (-7046029254386353131 : Int64)))), .second] [(.long (-7046029254386353131 : Int64)), (.long ys), (.long (own_unmix (own_mix ((ys + (-7046029254386353131 : Int64)) + (-7046029254386353131 : Int64)))))]) (fun _ kx_ => XS.lloadN X113.here hx rfl (hb hby at_46) rfl kx_) ?_
    refine W.s1 (mkF m 48 #[.val (.long ys), .second, .val (.long (-7046029254386353131 : Int64)), .second, .val (.ref b101), .val (.long (own_mix (ys + (-7046029254386353131 : Int64)))), .second, .val (.long (own_mix ((ys + (-7046029254386353131 : Int64)) + (-7046029254386353131 : Int64)))), .second] [(.long (ys + (-7046029254386353131 : Int64))), (.long (own_unmix (own_mix ((ys + (-7046029254386353131 : Int64)) + (-7046029254386353131 : Int64)))))]) (fun _ kx_ => XS.ladd X113.here hx rfl (hb hby at_47) rfl kx_) ?_
    refine W.s1 (mkF m 49 #[.val (.long ys), .second, .val (.long (-7046029254386353131 : Int64)), .second, .val (.ref b101), .val (.long (own_mix (ys + (-7046029254386353131 : Int64)))), .second, .val (.long (own_mix ((ys + (-7046029254386353131 : Int64)) + (-7046029254386353131 : Int64)))), .second] [(.long (-7046029254386353131 : Int64)), (.long (ys + (-7046029254386353131 : Int64))), (.long (own_unmix (own_mix ((ys + (-7046029254386353131 : Int64)) + (-7046029254386353131 : Int64)))))]) (fun _ kx_ => XS.lloadN X113.here hx rfl (hb hby at_48) rfl kx_) ?_
    refine W.s1 (mkF m 50 #[.val (.long ys), .second, .val (.long (-7046029254386353131 : Int64)), .second, .val (.ref b101), .val (.long (own_mix (ys + (-7046029254386353131 : Int64)))), .second, .val (.long (own_mix ((ys + (-7046029254386353131 : Int64)) + (-7046029254386353131 : Int64)))), .second] [(.long ((ys + (-7046029254386353131 : Int64)) + (-7046029254386353131 : Int64))), (.long (own_unmix (own_mix ((ys + (-7046029254386353131 : Int64)) + (-7046029254386353131 : Int64)))))]) (fun _ kx_ => XS.ladd X113.here hx rfl (hb hby at_49) rfl kx_) ?_
    refine W.lif X113 hx (hb hby at_50) (pc1 := 51) rfl (hb hby at_51) (pc' := 58) (pc'' := 54) (by decide) (by decide) rfl (fun (c51 : ¬ (own_unmix (own_mix ((ys + (-7046029254386353131 : Int64)) + (-7046029254386353131 : Int64)))) = ((ys + (-7046029254386353131 : Int64)) + (-7046029254386353131 : Int64))) => ?_) (fun (c51 : (own_unmix (own_mix ((ys + (-7046029254386353131 : Int64)) + (-7046029254386353131 : Int64)))) = ((ys + (-7046029254386353131 : Int64)) + (-7046029254386353131 : Int64))) => ?_)
    · exact absurd (own_law _) c51
    · refine W.s1 (mkF m 55 #[.val (.long ys), .second, .val (.long (-7046029254386353131 : Int64)), .second, .val (.ref b101), .val (.long (own_mix (ys + (-7046029254386353131 : Int64)))), .second, .val (.long (own_mix ((ys + (-7046029254386353131 : Int64)) + (-7046029254386353131 : Int64)))), .second] [(.int (1 : Int32))]) (fun _ kx_ => XS.iconst X113.here hx rfl (hb hby at_54) kx_) ?_
      refine W.s1 (mkF m 59 #[.val (.long ys), .second, .val (.long (-7046029254386353131 : Int64)), .second, .val (.ref b101), .val (.long (own_mix (ys + (-7046029254386353131 : Int64)))), .second, .val (.long (own_mix ((ys + (-7046029254386353131 : Int64)) + (-7046029254386353131 : Int64)))), .second] [(.int (1 : Int32))]) (fun _ kx_ => XS.goto X113.here hx rfl (pc0 := 55) (pc' := 59) rfl (hb hby at_55) (by decide) (by decide) kx_) ?_
      exact W.retZ X113 hx hlk (t := .boolean) (z' := (1 : Int32)) Bd.returns (by simp) (hb hby at_59) rfl (by show Q0 Z ys h0 n0 _ T113.heap _; rw [eq113]; exact ⟨rfl, N113⟩) (by decide) (by decide)
set_option maxRecDepth 65536 in
set_option maxHeartbeats 40000000 in
theorem comes_1 {Post : Tables → Env → Array Value → State → Outcome → State → Prop} (hpost : ∀ tb e args s v u, (limb_1_1.after args s (.returned v) u = true ∧ limb_1_2.after args s (.returned v) u = true ∧ True) → FrameEnd s (.returned v) u (Jvm.fieldLocs frame_1_writes args s ++ Jvm.arrayLocs frame_1_arrays args s ++ Jvm.staticLocs frame_1_statics s) 16 128 → Post tb e args s (.returned v) u) :
    ArmFor flags0 classFile x code maxLocals ret World_1 tables_1 room_1 Calls_1 rest_1 Pre_1 Post := by
  intro l hfl _ _ p e ha hc hk s m args below hf hA hF happ hP
  obtain ⟨hcalls, hrest, hpre⟩ := hP
  obtain ⟨-, -, -, hnamed, -, -, -, hat⟩ := (Spec.applies_iff hf).mp happ
  obtain ⟨hg, hn⟩ := and_e (Cond.before_iff.mp (show (Jvm.Cond.and given_1 narrow_1).before args s = true from hpre))
  obtain ⟨gc, g0⟩ := and_e hg
  have w_0 := g0
  obtain ⟨w0, rfl⟩ : ∃ w0 : Value, args = #[w0] := by
    have hs : args.size = 1 := by simpa [Cond.value, given_1] using gc
    obtain ⟨L⟩ := args
    match L, hs with
    | [w0], _ => exact ⟨w0, rfl⟩
  have hw := fun d (hd : d ∈ tables_1) => atoms_spec (ws := Jvm.Cond.code x code maxLocals ret :: tables_1) hat d (List.mem_cons_of_mem _ hd)
  have hfit : Fit s := fun {y c} hc i hi => by
    obtain ⟨ha, rfl⟩ := Array.getElem?_eq_some_iff.mp hc
    have q := List.all_eq_true.mp ((Array.all_eq_true_iff_forall_mem.mp hF) _ (Array.getElem_mem ha)) i (List.mem_range.mpr hi)
    simpa [Array.getElem?_eq_getElem hi] using q
  obtain ⟨i0, ei0⟩ := isL_v w_0
  obtain rfl : w0 = (.long i0) := Option.some.inj ei0
  obtain ⟨n, o, h1, h2, h3, _, L, rfl, ⟨rfl, N⟩, hq⟩ := rm0 l s _ hw tables_1 i0 s.heap s.heap.size (Nat.le_refl _)  p e ha hc hk s m _ below hf ((Spec.applies_iff_loose hf).mp happ).1 ⟨rfl, State.Warmed39.refl s, rfl⟩ trivial
  refine ⟨n, _, h1, h2, h3, hpost _ _ _ _ _ _ ⟨Cond.after_iff.mpr rfl, Cond.after_iff.mpr (eq_i res_at (Term.int_eval (1)) rfl), trivial⟩ ⟨hq.1, hq.2.1, (hq.2.2.sift fun y hy => Or.inr (N y hy)).mono (by decide) (by decide)⟩⟩
theorem main_1_1 : Claimed_1_1 := comes_1 fun _ _ _ _ _ _ h hF => ⟨h.1, hF⟩
theorem main_1_2 : Claimed_1_2 := comes_1 fun _ _ _ _ _ _ h hF => ⟨h.2.1, hF⟩
end Jvm.Pilot.@@N@@
namespace Jvm.Pilot.@@N@@
open Jvm Jvm.ClassFile Sem Op Lib Jvm.Free Jvm.Stand Jvm.Pilot.@@N@@.Jvm.D
/-! MADE BY PROGRAM (witnessworld.py) out of the Statement's table words and the real class files: 9 classes; the members and pool entries that the words name. The judged class is class 1, her method 3. -/
namespace start1
open Jvm.ClassFile
def u (s : String) : CpInfo := .utf8 (stringToUtf16 s)
/-- a pool by its gaps: so many unusable entries, then the entry; so many at the end -/
def gap : Nat → List CpInfo → List CpInfo
  | 0, r => r
  | n + 1, r => .unusable :: gap n r
def poolList (es : List (Nat × CpInfo)) (last : Nat) : List CpInfo := es.foldr (fun e r => gap e.1 (e.2 :: r)) (gap last [])
def pool (es : List (Nat × CpInfo)) (last : Nat) : Array CpInfo := ⟨poolList es last⟩
def fileOf (pool : Array CpInfo) (this : Nat) (attrs : Array Attribute := #[]) (ms : Array MethodInfo := #[]) (fl : Nat := 33) (sup : Nat := 0) (ifs : Array Nat := #[]) (fds : Array FieldInfo := #[]) : ClassFile where
  minorVersion := 0
  majorVersion := 65
  constantPool := pool
  accessFlags := fl
  thisClass := this
  superClass := sup
  interfaces := ifs
  fields := fds
  methods := ms
  attributes := attrs
def plain (name : String) (sup : Option ClassId) : Class where
  name := name
  kind := .ordinary
  loader := none
  accessFlags := 33
  super := sup
  interfaces := #[]
  cf := none
  fields := #[]
  methods := #[]
  instanceTypes := #[]
  staticTypes := #[]
  resolved := #[]
  callSites := []
  init := .initialized
  statics := none
  mirror := none

def pool0 : Array CpInfo := pool [(5, u "<init>"), (0, u "()V"), (1, .class_ 10), (1, u "java/lang/Object")] 113

def k0c0 : Code := { maxStack := 0, maxLocals := 1, code := object_method_1_code, exceptionTable := #[], attributes := #[] }
def k0m0 : Method := { name := "<init>", desc := "()V", sig := { parameters := [], returnType := none }, accessFlags := 1, code := some k0c0 }
/-- java/lang/Object -/
def k0 : Class := { plain "java/lang/Object" none with
  accessFlags := 33
  interfaces := #[]
  cf := some (fileOf pool0 8 #[] #[{ accessFlags := 1, nameIndex := 5, descriptorIndex := 6, attributes := #[] }] 33 0 #[] #[])
  fields := #[]
  methods := #[k0m0]
  instanceTypes := #[]
  staticTypes := #[]
  resolved := Array.replicate 124 none
  statics := none }

def pool1 : Array CpInfo := pool [(2, .class_ 4), (1, u "java/lang/Object"), (0, u "<init>"), (0, u "()V"), (0, .long 2), (1, .long 10723151780598845931), (1, .methodref 12 13), (0, .class_ 14), (0, .nameAndType 15 16), (0, u "com/example/hybridge/hybridge/simulation/SplitMix64NextLongPinLaw"), (0, u "inverse"), (0, u "(J)J"), (0, .long 13787848793156543929), (1, .long 11400714819323198485), (1, .class_ 22), (0, u "com/example/hybridge/hybridge/simulation/SplitMix64"), (0, .methodref 21 24), (0, .nameAndType 5 25), (0, u "(J)V"), (0, .methodref 21 27), (0, .nameAndType 28 29), (0, u "nextLong"), (0, u "()J"), (0, .methodref 12 31), (0, .nameAndType 32 16), (0, u "unmix"), (2, u "law"), (0, u "(J)Z")] 3

def k1m0 : Method := { name := "<init>", desc := "()V", sig := { parameters := [], returnType := none }, accessFlags := 1, code := none }
def k1c1 : Code := { maxStack := 8, maxLocals := 4, code := method_2_code, exceptionTable := #[], attributes := #[] }
def k1m1 : Method := { name := "inverse", desc := "(J)J", sig := { parameters := [.long], returnType := some .long }, accessFlags := 10, code := some k1c1 }
def k1c2 : Code := { maxStack := 5, maxLocals := 10, code := method_3_code, exceptionTable := #[], attributes := #[] }
def k1m2 : Method := { name := "unmix", desc := "(J)J", sig := { parameters := [.long], returnType := some .long }, accessFlags := 10, code := some k1c2 }
def k1c3 : Code := { maxStack := 6, maxLocals := 9, code := code, exceptionTable := #[], attributes := #[] }
def k1m3 : Method := { name := "law", desc := "(J)Z", sig := { parameters := [.long], returnType := some .boolean }, accessFlags := 9, code := some k1c3 }
/-- com/example/hybridge/hybridge/simulation/SplitMix64NextLongPinLaw -/
def k1 : Class := { plain "com/example/hybridge/hybridge/simulation/SplitMix64NextLongPinLaw" (some 0) with
  accessFlags := 49
  interfaces := #[]
  cf := some (fileOf pool1 12 #[] #[{ accessFlags := 1, nameIndex := 5, descriptorIndex := 6, attributes := #[] }, { accessFlags := 10, nameIndex := 15, descriptorIndex := 16, attributes := #[] }, { accessFlags := 10, nameIndex := 32, descriptorIndex := 16, attributes := #[] }, { accessFlags := 9, nameIndex := 35, descriptorIndex := 36, attributes := #[] }] 49 2 #[] #[])
  fields := #[]
  methods := #[k1m0, k1m1, k1m2, k1m3]
  instanceTypes := #[]
  staticTypes := #[]
  resolved := Array.replicate 40 none
  statics := none }

def pool2 : Array CpInfo := pool [(1, .methodref 2 3), (0, .class_ 4), (0, .nameAndType 5 6), (0, u "java/lang/Object"), (0, u "<init>"), (0, u "()V"), (0, .fieldref 8 9), (0, .class_ 10), (0, .nameAndType 11 12), (0, u "com/example/hybridge/hybridge/simulation/SplitMix64"), (0, u "state"), (0, u "J"), (0, .long 11400714819323198485), (1, .long 13787848793156543929), (1, .long 10723151780598845931), (3, u "nextLong"), (0, u "()J"), (11, u "GOLDEN_GAMMA"), (1, u "(J)V")] 7

def k2c0 : Code := { maxStack := 3, maxLocals := 3, code := prog_96_method_1_code, exceptionTable := #[], attributes := #[] }
def k2m0 : Method := { name := "<init>", desc := "(J)V", sig := { parameters := [.long], returnType := none }, accessFlags := 0, code := some k2c0 }
def k2c1 : Code := { maxStack := 5, maxLocals := 3, code := prog_96_method_2_code, exceptionTable := #[], attributes := #[] }
def k2m1 : Method := { name := "nextLong", desc := "()J", sig := { parameters := [], returnType := some .long }, accessFlags := 0, code := some k2c1 }
/-- com/example/hybridge/hybridge/simulation/SplitMix64 -/
def k2 : Class := { plain "com/example/hybridge/hybridge/simulation/SplitMix64" (some 0) with
  accessFlags := 48
  interfaces := #[]
  cf := some (fileOf pool2 8 #[] #[{ accessFlags := 0, nameIndex := 5, descriptorIndex := 36, attributes := #[] }, { accessFlags := 0, nameIndex := 21, descriptorIndex := 22, attributes := #[] }] 48 2 #[] #[{ accessFlags := 26, nameIndex := 34, descriptorIndex := 12, attributes := #[] }, { accessFlags := 2, nameIndex := 11, descriptorIndex := 12, attributes := #[] }])
  fields := #[{ name := "GOLDEN_GAMMA", type := .long, accessFlags := 26, slot := 0, constantValue := 0 }, { name := "state", type := .long, accessFlags := 2, slot := 0, constantValue := 0 }]
  methods := #[k2m0, k2m1]
  instanceTypes := #[.long]
  staticTypes := #[.long]
  resolved := Array.replicate 44 none
  statics := none }

def pool3 : Array CpInfo := pool [(1, u "java/lang/Cloneable"), (0, .class_ 1), (0, u "java/lang/Object"), (0, .class_ 3)] 3

/-- java/lang/Cloneable -/
def k3 : Class := { plain "java/lang/Cloneable" (some 0) with
  accessFlags := 1537
  interfaces := #[]
  cf := some (fileOf pool3 2 #[] #[] 1537 4 #[] #[])
  fields := #[]
  methods := #[]
  instanceTypes := #[]
  staticTypes := #[]
  resolved := Array.replicate 8 none
  statics := none }

def pool4 : Array CpInfo := pool [(1, u "java/io/Serializable"), (0, .class_ 1), (0, u "java/lang/Object"), (0, .class_ 3)] 3

/-- java/io/Serializable -/
def k4 : Class := { plain "java/io/Serializable" (some 0) with
  accessFlags := 1537
  interfaces := #[]
  cf := some (fileOf pool4 2 #[] #[] 1537 4 #[] #[])
  fields := #[]
  methods := #[]
  instanceTypes := #[]
  staticTypes := #[]
  resolved := Array.replicate 8 none
  statics := none }

/-- the primitive byte -/
def k5 : Class := { plain "byte" none with kind := .primitive 'B', accessFlags := 0x411 }
/-- [B -/
def k6 : Class := { plain "[B" (some 0) with kind := .array 5 .byte, interfaces := #[3, 4], accessFlags := 1041 }

/-- the primitive int -/
def k7 : Class := { plain "int" none with kind := .primitive 'I', accessFlags := 0x411 }
/-- [I -/
def k8 : Class := { plain "[I" (some 0) with kind := .array 7 .int, interfaces := #[3, 4], accessFlags := 1041 }

def heap : Heap := #[]
def classes : Array Class := #[k0, k1, k2, k3, k4, k5, k6, k7, k8]
def interned : List (Array UInt16 × Addr) := []
def slotsUsed : Nat := 0
def theMethod : MethodId := ⟨1, 3⟩
def args0 : Array Value := #[.long 5]
def aboutOver (below : List Frame) : State where
  vm := { classes := classes, interned := interned.toArray }
  heap := heap
  slotsUsed := slotsUsed
  threads := #[{ frames := .invoking theMethod args0 :: below }]
def below0 : List Frame := [.native { method := ⟨0, 0⟩, args := #[] }]
def about1 : State := aboutOver below0
def p0 : Program := .bare "" "" ""
def e0 : Env := launch0.env 0 0 0
theorem w_frames : about1.frames = Frame.invoking theMethod args0 :: below0 := rfl
set_option maxRecDepth 65536 in
theorem w_args : argsFit about1.vm theMethod args0 = true := by decide +kernel
set_option maxRecDepth 65536 in
theorem w_heap : heapFits about1 = true := by decide +kernel
set_option maxRecDepth 65536 in
theorem w_runnable : about1.curStatus? = some .runnable := by decide +kernel
set_option maxRecDepth 65536 in
theorem w_alone : about1.alone = true := by decide +kernel
set_option maxRecDepth 65536 in
theorem w_named : about1.methodNamed? x = some theMethod := by decide +kernel
set_option maxRecDepth 65536 in
theorem w_hears : about1.hears theMethod below0 = true := by decide +kernel
set_option maxRecDepth 65536 in
theorem w_ripe : about1.ripe theMethod args0 below0 = true := by decide +kernel
theorem w_running : about1.status = .running := rfl
set_option maxRecDepth 65536 in
theorem w_room : about1.hasRoom e0.platform room_1 = true :=
  launch0.hasRoom_least _ room_1 (by decide +kernel) (by decide +kernel) (by decide +kernel) (by decide +kernel) (by decide +kernel) (by decide +kernel)
theorem allAtoms_all (ts : List Jvm.Cond) (a : Array Jvm.Value) (st : Jvm.State) : (allAtoms ts).before a st = ts.all (fun c => c.before a st) := by
  induction ts with
  | nil => rfl
  | cons c t ih =>
    show (Jvm.Cond.and c (allAtoms t)).before a st = _
    rw [Jvm.Cond.before_and, ih, List.all_cons]
def words1 : List Jvm.Cond := Jvm.Cond.code x code maxLocals ret :: tables_1
/-- a 'code' word, met by the world's own term for the bytes: nothing is compared byte by byte -/
theorem code_word {y : MethodName} {bytes : ByteArray} {mx : Nat} {rt : Option FieldType} {a : Array Value} {s : State} {m : MethodId} {meth : Method} {c : Code} (h1 : s.methodNamed? y = some m) (h2 : s.vm.method? m = some meth) (h3 : meth.code = some c) (h4 : c.code = bytes)
    (h5 : (c.maxLocals == mx && c.exceptionTable.isEmpty && decide (c.maxStack ≤ mostOperands) && decide (meth.sig.returnType = rt) && !meth.locks && decide (parseMethodDescriptor y.desc = some meth.sig)) = true) : (Jvm.Cond.code y bytes mx rt).before a s = true := by
  simp only [Bool.and_eq_true, beq_iff_eq, Bool.not_eq_true', decide_eq_true_eq] at h5
  obtain ⟨⟨⟨⟨⟨g1, g2⟩, g3⟩, g4⟩, g5⟩, g6⟩ := h5
  simp [Cond.before, Cond.holds, Cond.value, h1, h2, h3, h4, g1, g2, g3, g4, g5, g6]
def isCode : Jvm.Cond → Bool
  | .code _ _ _ _ => true
  | _ => false
theorem all_split {L : List Jvm.Cond} {P : Jvm.Cond → Bool} (h1 : L.all (fun c => isCode c || P c) = true) (h2 : ∀ c ∈ L.filter isCode, P c = true) : L.all P = true := by
  refine List.all_eq_true.mpr fun c hc => ?_
  have h := List.all_eq_true.mp h1 c hc
  rcases Bool.eq_false_or_eq_true (isCode c) with hi | hi
  · exact h2 c (List.mem_filter.mpr ⟨hc, hi⟩)
  · simpa [hi] using h
set_option maxRecDepth 65536 in
theorem w_c0 : (Jvm.Cond.code x code maxLocals ret).before args0 about1 = true := code_word (m := ⟨1, 3⟩) (meth := k1m3) (c := k1c3) (by decide +kernel) rfl rfl rfl (by decide +kernel)
set_option maxRecDepth 65536 in
theorem w_c1 : (Jvm.Cond.code ({ cls := "com/example/hybridge/hybridge/simulation/SplitMix64", name := "<init>", desc := "(J)V" } : Jvm.MethodName) prog_96_method_1_code (3 : Nat) (Option.none : Option Jvm.ClassFile.FieldType)).before args0 about1 = true := code_word (m := ⟨2, 0⟩) (meth := k2m0) (c := k2c0) (by decide +kernel) rfl rfl rfl (by decide +kernel)
set_option maxRecDepth 65536 in
theorem w_c2 : (Jvm.Cond.code ({ cls := "java/lang/Object", name := "<init>", desc := "()V" } : Jvm.MethodName) object_method_1_code (1 : Nat) (Option.none : Option Jvm.ClassFile.FieldType)).before args0 about1 = true := code_word (m := ⟨0, 0⟩) (meth := k0m0) (c := k0c0) (by decide +kernel) rfl rfl rfl (by decide +kernel)
set_option maxRecDepth 65536 in
theorem w_c3 : (Jvm.Cond.code ({ cls := "com/example/hybridge/hybridge/simulation/SplitMix64", name := "nextLong", desc := "()J" } : Jvm.MethodName) prog_96_method_2_code (3 : Nat) (Option.some Jvm.ClassFile.FieldType.long)).before args0 about1 = true := code_word (m := ⟨2, 1⟩) (meth := k2m1) (c := k2c1) (by decide +kernel) rfl rfl rfl (by decide +kernel)
set_option maxRecDepth 65536 in
theorem w_c4 : (Jvm.Cond.code ({ cls := "com/example/hybridge/hybridge/simulation/SplitMix64NextLongPinLaw", name := "unmix", desc := "(J)J" } : Jvm.MethodName) method_3_code (10 : Nat) (Option.some Jvm.ClassFile.FieldType.long)).before args0 about1 = true := code_word (m := ⟨1, 2⟩) (meth := k1m2) (c := k1c2) (by decide +kernel) rfl rfl rfl (by decide +kernel)
set_option maxRecDepth 65536 in
theorem w_c5 : (Jvm.Cond.code ({ cls := "com/example/hybridge/hybridge/simulation/SplitMix64NextLongPinLaw", name := "inverse", desc := "(J)J" } : Jvm.MethodName) method_2_code (4 : Nat) (Option.some Jvm.ClassFile.FieldType.long)).before args0 about1 = true := code_word (m := ⟨1, 1⟩) (meth := k1m1) (c := k1c1) (by decide +kernel) rfl rfl rfl (by decide +kernel)
def codes1 : List Jvm.Cond := [Jvm.Cond.code x code maxLocals ret, Jvm.Cond.code ({ cls := "com/example/hybridge/hybridge/simulation/SplitMix64", name := "<init>", desc := "(J)V" } : Jvm.MethodName) prog_96_method_1_code (3 : Nat) (Option.none : Option Jvm.ClassFile.FieldType), Jvm.Cond.code ({ cls := "java/lang/Object", name := "<init>", desc := "()V" } : Jvm.MethodName) object_method_1_code (1 : Nat) (Option.none : Option Jvm.ClassFile.FieldType), Jvm.Cond.code ({ cls := "com/example/hybridge/hybridge/simulation/SplitMix64", name := "nextLong", desc := "()J" } : Jvm.MethodName) prog_96_method_2_code (3 : Nat) (Option.some Jvm.ClassFile.FieldType.long), Jvm.Cond.code ({ cls := "com/example/hybridge/hybridge/simulation/SplitMix64NextLongPinLaw", name := "unmix", desc := "(J)J" } : Jvm.MethodName) method_3_code (10 : Nat) (Option.some Jvm.ClassFile.FieldType.long), Jvm.Cond.code ({ cls := "com/example/hybridge/hybridge/simulation/SplitMix64NextLongPinLaw", name := "inverse", desc := "(J)J" } : Jvm.MethodName) method_2_code (4 : Nat) (Option.some Jvm.ClassFile.FieldType.long)]
set_option maxRecDepth 65536 in
theorem codes_eq : words1.filter isCode = codes1 := rfl
theorem w_codes : ∀ c ∈ words1.filter isCode, c.before args0 about1 = true := by
  rw [codes_eq]
  intro c hc
  simp only [codes1, List.mem_cons, List.not_mem_nil, or_false] at hc
  rcases hc with rfl | rfl | rfl | rfl | rfl | rfl
  · exact w_c0
  · exact w_c1
  · exact w_c2
  · exact w_c3
  · exact w_c4
  · exact w_c5
set_option maxRecDepth 65536 in
theorem w_t1 : (words1.take 24).all (fun c => isCode c || c.before args0 about1) = true := by decide +kernel
set_option maxRecDepth 65536 in
theorem w_t2 : (words1.drop 24).all (fun c => isCode c || c.before args0 about1) = true := by decide +kernel
theorem w_tables : (allAtoms (Jvm.Cond.code x code maxLocals ret :: tables_1)).before args0 about1 = true := by
  rw [allAtoms_all]
  show words1.all (fun c => c.before args0 about1) = true
  refine all_split ?_ w_codes
  rw [← List.take_append_drop 24 words1, List.all_append, w_t1, w_t2]
  rfl
set_option maxRecDepth 65536 in
theorem w_case : (Jvm.Cond.and given_1 narrow_1).before args0 about1 = true := by decide +kernel
theorem w_applies : (headSpec (Jvm.Cond.code x code maxLocals ret :: tables_1) room_1).applies x e0.platform about1 = true :=
  (Spec.applies_iff w_frames).mpr ⟨w_running, w_runnable, w_alone, w_named, w_hears, w_ripe, w_room, w_tables⟩
theorem atStart : AtStart classFile x code maxLocals ret World_1 tables_1 room_1 Calls_1 rest_1 Pre_1 launch0 p0 e0 about1 theMethod args0 below0 :=
  ⟨lists_1, trivial, launch0.admits_env _ _ _, launch0.least_env, fairChoices_fair.cas, fairChoices_fair.clock, w_frames, w_args, w_heap, w_applies, trivial, trivial, w_case⟩
end start1
theorem witness_1 : WitnessClaimed_1 := ⟨start1.p0, start1.e0, start1.about1, start1.theMethod, start1.args0, start1.below0, start1.atStart⟩
end Jvm.Pilot.@@N@@
