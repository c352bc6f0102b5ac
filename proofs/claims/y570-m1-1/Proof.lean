import JvmDerived
import JvmDerived.Pilot.@@N@@Statement
import JvmDerived.Pilot.@@N@@Code
set_option linter.unusedVariables false
set_option linter.unusedSimpArgs false
namespace Jvm.Pilot.@@N@@.W
open Jvm Jvm.ClassFile Sem Op Lib Jvm.Free Jvm.Stand Jvm.LawKit Jvm.RoadKit
/-! own kit: a body's walk in one pass, backwards from its end ('Gl': from here the body comes to its end and there P holds) -/
section Walk
variable {p : Program} {l : Launch} {e : Env} {R : Room} {s : State} {m : MethodId} {args : Array Value} {below : List Frame} {meth : Method} {c : Code} {T T' : State} {locs : List Loc} {cells slots : Nat} {P : Option Value → Heap → List Loc → Prop} {C N : Nat} {Ls : Array Slot} {S : List Value} {pc pc' pc'' : Nat} {g : JFrame}
def Gl (p : Program) (e : Env) (below : List Frame) (s : State) (P : Option Value → Heap → List Loc → Prop) (C N : Nat) (T : State) (g : JFrame) : Prop :=
  ∃ (s₂ : State) (o : Outcome), Steps p.tables e below (T.setTop g) s₂ ∧ s₂.status = .running ∧ Ended s₂ below o ∧ ∃ v L, o = .returned v ∧ P v s₂.heap L ∧ FrameEnd s o s₂ L C N
theorem s1 (g' : JFrame) (h : ∀ t, Steps p.tables e below (T.setTop g') t → Steps p.tables e below (T.setTop g) t) (K : Gl p e below s P C N T g') : Gl p e below s P C N T g := by
  obtain ⟨s₂, o, h1, h2⟩ := K; exact ⟨s₂, o, h _ h1, h2⟩
theorem s2 (g' : JFrame) (h : ∀ t, Steps p.tables e below (T'.setTop g') t → Steps p.tables e below (T.setTop g) t) (K : Gl p e below s P C N T' g') : Gl p e below s P C N T g := by
  obtain ⟨s₂, o, h1, h2⟩ := K; exact ⟨s₂, o, h _ h1, h2⟩
theorem s3 (g' : JFrame) (h : Steps p.tables e below (T.setTop g) (T'.setTop g')) (K : Gl p e below s P C N T' g') : Gl p e below s P C N T g := by
  obtain ⟨s₂, o, h1, h2⟩ := K; exact ⟨s₂, o, h.trans h1, h2⟩
theorem cast {g' : JFrame} (q : g = g') (K : Gl p e below s P C N T g') : Gl p e below s P C N T g := q ▸ K
theorem fin (X : Stand p l e R s m args below meth c T locs cells slots) {v : Option Value} (hv : meth.sig.returnType = none → v = none) (hlk : meth.locks = false)
    (hs : ∀ fs, (∀ (f : JFrame) (acts : List Action), f.method = m → f.locked = none → f.entered = [] → (doReturn e (T.setTop f) acts v).1 = T.setFrames fs) → Steps p.tables e below (T.setTop g) (T.setFrames fs))
    (hP : P v T.heap locs) (hC : cells ≤ C) (hN : slots ≤ N) : Gl p e below s P C N T g := by
  obtain ⟨fs, hr, hrun, hended, hW, hsame⟩ := X.leave hv hlk
  exact ⟨_, _, hs fs hr, hrun, hended, _, _, rfl, hP, ⟨_, rfl⟩, hW, hsame.mono hC hN⟩
theorem retZ (X : Stand p l e R s m args below meth c T locs cells slots) (hx : p.tables.exec = Jvm.exec) (hlk : meth.locks = false) {z z' : Int32} {t : FieldType} (hret : meth.sig.returnType = some t) (ht : t = .boolean ∨ t = .byte ∨ t = .char ∨ t = .short)
    (hd : decode c.code pc = .ok (.ireturn, 1)) (hz : nar t z = z') (hP : P (some (.int z')) T.heap locs) (hC : cells ≤ C) (hN : slots ≤ N) : Gl p e below s P C N T (mkF m pc Ls (.int z :: S)) :=
  fin X (v := some (.int z')) (fun h => by rw [hret] at h; cases h) hlk (fun fs hr => by subst hz; exact RoadKit.retN X hx hret ht hd hr) hP hC hN
theorem retI (X : Stand p l e R s m args below meth c T locs cells slots) (hx : p.tables.exec = Jvm.exec) (hlk : meth.locks = false) {z : Int32} (hret : meth.sig.returnType = some .int)
    (hd : decode c.code pc = .ok (.ireturn, 1)) (hP : P (some (.int z)) T.heap locs) (hC : cells ≤ C) (hN : slots ≤ N) : Gl p e below s P C N T (mkF m pc Ls (.int z :: S)) :=
  fin X (v := some (.int z)) (fun h => by rw [hret] at h; cases h) hlk (fun fs hr => retOut X hx hret rfl (Or.inl ⟨rfl, Or.inl rfl, _, rfl⟩) hd hr) hP hC hN
theorem retL (X : Stand p l e R s m args below meth c T locs cells slots) (hx : p.tables.exec = Jvm.exec) (hlk : meth.locks = false) {z : Int64} (hret : meth.sig.returnType = some .long)
    (hd : decode c.code pc = .ok (.lreturn, 1)) (hP : P (some (.long z)) T.heap locs) (hC : cells ≤ C) (hN : slots ≤ N) : Gl p e below s P C N T (mkF m pc Ls (.long z :: S)) :=
  fin X (v := some (.long z)) (fun h => by rw [hret] at h; cases h) hlk (fun fs hr => retOut X hx hret rfl (Or.inr (Or.inl ⟨rfl, rfl, _, rfl⟩)) hd hr) hP hC hN
theorem retA (X : Stand p l e R s m args below meth c T locs cells slots) (hx : p.tables.exec = Jvm.exec) (hlk : meth.locks = false) {w : Value} {t : FieldType} (hret : meth.sig.returnType = some t) (ht : t.isReference = true) (hw : w.isRef = true) (hn : narrow t w = w)
    (hd : decode c.code pc = .ok (.areturn, 1)) (hP : P (some w) T.heap locs) (hC : cells ≤ C) (hN : slots ≤ N) : Gl p e below s P C N T (mkF m pc Ls (w :: S)) :=
  fin X (v := some w) (fun h => by rw [hret] at h; cases h) hlk (fun fs hr => retOut X hx hret hn (Or.inr (Or.inr (Or.inr (Or.inr ⟨rfl, ht, hw⟩)))) hd hr) hP hC hN
theorem ret0 (X : Stand p l e R s m args below meth c T locs cells slots) (hx : p.tables.exec = Jvm.exec) (hlk : meth.locks = false) (hret : meth.sig.returnType = none)
    (hd : decode c.code pc = .ok (.return_, 1)) (hP : P none T.heap locs) (hC : cells ≤ C) (hN : slots ≤ N) : Gl p e below s P C N T (mkF m pc Ls []) :=
  fin X (v := none) (fun _ => rfl) hlk (fun fs hr => X.returnOut hx hret hd hr) hP hC hN
/-! the branches -/
def cY : ClassFile.Cond → Int32 → Int32 → Prop
  | .eq, x, y => x = y
  | .ne, x, y => ¬ x = y
  | .lt, x, y => x < y
  | .ge, x, y => ¬ x < y
  | .gt, x, y => y < x
  | .le, x, y => ¬ y < x
def cN : ClassFile.Cond → Int32 → Int32 → Prop
  | .eq, x, y => ¬ x = y
  | .ne, x, y => x = y
  | .lt, x, y => ¬ x < y
  | .ge, x, y => x < y
  | .gt, x, y => ¬ y < x
  | .le, x, y => y < x
theorem cOr (cd : ClassFile.Cond) (x y : Int32) : (cY cd x y ∧ if_icmp.holds cd x y = true) ∨ (cN cd x y ∧ if_icmp.holds cd x y = false) := by
  cases cd with
  | eq => by_cases h : x = y; exact Or.inl ⟨h, (teq h).1⟩; exact Or.inr ⟨h, (feq h).1⟩
  | ne => by_cases h : x = y; exact Or.inr ⟨h, (teq h).2⟩; exact Or.inl ⟨h, (feq h).2⟩
  | lt => by_cases h : x < y; exact Or.inl ⟨h, (tlt h).1⟩; exact Or.inr ⟨h, (flt h).1⟩
  | ge => by_cases h : x < y; exact Or.inr ⟨h, (tlt h).2.1⟩; exact Or.inl ⟨h, (flt h).2.1⟩
  | gt => by_cases h : y < x; exact Or.inl ⟨h, (tlt h).2.2.1⟩; exact Or.inr ⟨h, (flt h).2.2.1⟩
  | le => by_cases h : y < x; exact Or.inr ⟨h, (tlt h).2.2.2⟩; exact Or.inl ⟨h, (flt h).2.2.2⟩
def lY : ClassFile.Cond → Int64 → Int64 → Prop
  | .eq, x, y => x = y
  | .ne, x, y => ¬ x = y
  | .lt, x, y => x < y
  | .ge, x, y => ¬ x < y
  | .gt, x, y => y < x
  | .le, x, y => ¬ y < x
def lN : ClassFile.Cond → Int64 → Int64 → Prop
  | .eq, x, y => ¬ x = y
  | .ne, x, y => x = y
  | .lt, x, y => ¬ x < y
  | .ge, x, y => x < y
  | .gt, x, y => ¬ y < x
  | .le, x, y => y < x
theorem lYc {cd : ClassFile.Cond} {x y : Int64} (h : cY cd (lcmpW x y) 0) : lY cd x y := by
  rw [lcW] at h
  cases cd with
  | eq => exact (lc_eq x y).mp h
  | ne => exact fun q => h ((lc_eq x y).mpr q)
  | lt => exact (lc_lt x y).mp h
  | ge => exact fun q => h ((lc_lt x y).mpr q)
  | gt => exact (lc_gt x y).mp h
  | le => exact fun q => h ((lc_gt x y).mpr q)
theorem lNc {cd : ClassFile.Cond} {x y : Int64} (h : cN cd (lcmpW x y) 0) : lN cd x y := by
  rw [lcW] at h
  cases cd with
  | eq => exact fun q => h ((lc_eq x y).mpr q)
  | ne => exact (lc_eq x y).mp h
  | lt => exact fun q => h ((lc_lt x y).mpr q)
  | ge => exact (lc_lt x y).mp h
  | gt => exact fun q => h ((lc_gt x y).mpr q)
  | le => exact (lc_gt x y).mp h
theorem icmp (X : Stand p l e R s m args below meth c T locs cells slots) (hx : p.tables.exec = Jvm.exec) {cd : ClassFile.Cond} {x y : Int32} {o : Int} (hd : decode c.code pc = .ok (.if_icmp cd o, 3)) (ho : 0 ≤ (pc : Int) + o) (hp : ((pc : Int) + o).toNat = pc') (hq : pc + 3 = pc'')
    (ky : cY cd x y → Gl p e below s P C N T (mkF m pc' Ls S)) (kn : cN cd x y → Gl p e below s P C N T (mkF m pc'' Ls S)) : Gl p e below s P C N T (mkF m pc Ls (.int y :: .int x :: S)) := by
  subst hq
  rcases cOr cd x y with ⟨h1, h2⟩ | ⟨h1, h2⟩
  · exact s1 _ (fun t k => XS.icmpYes X.here hx rfl (pc0 := pc) (pc' := pc') rfl hd rfl h2 ho hp k) (ky h1)
  · exact s1 _ (fun t k => XS.icmpNo X.here hx rfl hd rfl h2 k) (kn h1)
theorem ifc (X : Stand p l e R s m args below meth c T locs cells slots) (hx : p.tables.exec = Jvm.exec) {cd : ClassFile.Cond} {x : Int32} {o : Int} (hd : decode c.code pc = .ok (.ifCond cd o, 3)) (ho : 0 ≤ (pc : Int) + o) (hp : ((pc : Int) + o).toNat = pc') (hq : pc + 3 = pc'')
    (ky : cY cd x 0 → Gl p e below s P C N T (mkF m pc' Ls S)) (kn : cN cd x 0 → Gl p e below s P C N T (mkF m pc'' Ls S)) : Gl p e below s P C N T (mkF m pc Ls (.int x :: S)) := by
  subst hq
  rcases cOr cd x 0 with ⟨h1, h2⟩ | ⟨h1, h2⟩
  · exact s1 _ (fun t k => XS.ifYes X.here hx rfl (pc0 := pc) (pc' := pc') rfl hd rfl ((if0 _ _).trans h2) ho hp k) (ky h1)
  · exact s1 _ (fun t k => XS.ifNo X.here hx rfl hd rfl ((if0 _ _).trans h2) k) (kn h1)
theorem lif (X : Stand p l e R s m args below meth c T locs cells slots) (hx : p.tables.exec = Jvm.exec) {cd : ClassFile.Cond} {x y : Int64} {o : Int} (hd1 : decode c.code pc = .ok (.lcmp, 1)) {pc1 : Nat} (h1 : pc + 1 = pc1) (hd : decode c.code pc1 = .ok (.ifCond cd o, 3)) (ho : 0 ≤ (pc1 : Int) + o) (hp : ((pc1 : Int) + o).toNat = pc') (hq : pc1 + 3 = pc'')
    (ky : lY cd x y → Gl p e below s P C N T (mkF m pc' Ls S)) (kn : lN cd x y → Gl p e below s P C N T (mkF m pc'' Ls S)) : Gl p e below s P C N T (mkF m pc Ls (.long y :: .long x :: S)) := by
  subst h1
  exact s1 (mkF m (pc + 1) Ls (.int (lcmpW x y) :: S)) (fun t k => XS.lcmp X.here hx rfl hd1 rfl k) (ifc X hx hd ho hp hq (fun h => ky (lYc h)) (fun h => kn (lNc h)))
end Walk
/-! arrays of ints and of longs, by what each place holds -/
section Arrays
variable {Z : State} {h h' : Heap} {a b : Addr} {ty : FieldType} {n : Nat} {f : Nat → Int32} {q : Nat → Int64}
def up {α : Type} (f : Nat → α) (j : Nat) (v : α) : Nat → α := fun k => if k = j then v else f k
theorem up_same {α : Type} (f : Nat → α) (j : Nat) (v : α) : up f j v j = v := if_pos rfl
theorem up_other {α : Type} (f : Nat → α) {j k : Nat} (v : α) (h : ¬ k = j) : up f j v k = f k := if_neg h
def AI (Z : State) (h : Heap) (a : Addr) (ty : FieldType) (n : Nat) (f : Nat → Int32) : Prop := ∃ c : Cell, Arr Z h a c ty ∧ c.slots.size = n ∧ ∀ k, k < n → c.slots[k]? = some (.int (f k))
def AJ (Z : State) (h : Heap) (a : Addr) (n : Nat) (f : Nat → Int64) : Prop := ∃ c : Cell, Arr Z h a c .long ∧ c.slots.size = n ∧ ∀ k, k < n → c.slots[k]? = some (.long (f k))
theorem AI.lt (F : AI Z h a ty n f) : a < h.size := by obtain ⟨c, A, -⟩ := F; exact A.lt
theorem AJ.lt (F : AJ Z h a n q) : a < h.size := by obtain ⟨c, A, -⟩ := F; exact A.lt
theorem AI.ext (F : AI Z h a ty n f) (E : Ext h h') : AI Z h' a ty n f := by obtain ⟨c, A, r⟩ := F; exact ⟨c, A.ext E, r⟩
theorem AJ.ext (F : AJ Z h a n q) (E : Ext h h') : AJ Z h' a n q := by obtain ⟨c, A, r⟩ := F; exact ⟨c, A.ext E, r⟩
theorem AI.other {sl : Nat} {v : Value} (F : AI Z h b ty n f) (W : Wr h h' a sl v) (e : b ≠ a) : AI Z h' b ty n f := by obtain ⟨c, A, r⟩ := F; exact ⟨c, A.other W e, r⟩
theorem AJ.other {sl : Nat} {v : Value} (F : AJ Z h b n q) (W : Wr h h' a sl v) (e : b ≠ a) : AJ Z h' b n q := by obtain ⟨c, A, r⟩ := F; exact ⟨c, A.other W e, r⟩
theorem AI.keep {ws : List Addr} (F : AI Z h a ty n f) (K : Keep h h' ws) (e : a ∉ ws) : AI Z h' a ty n f := by obtain ⟨c, A, r⟩ := F; exact ⟨c, ⟨K.2.1 a c A.1 e, A.2⟩, r⟩
theorem AJ.keep {ws : List Addr} (F : AJ Z h a n q) (K : Keep h h' ws) (e : a ∉ ws) : AJ Z h' a n q := by obtain ⟨c, A, r⟩ := F; exact ⟨c, ⟨K.2.1 a c A.1 e, A.2⟩, r⟩
theorem slots_set {c : Cell} {j k : Nat} {v : Value} (hj : j < c.slots.size) : (c.setSlot j v).slots[k]? = if k = j then some v else c.slots[k]? := by
  by_cases e : k = j
  · subst e; simp [Cell.setSlot, hj]
  · simp only [Cell.setSlot, if_neg e]; exact Array.getElem?_setIfInBounds_ne (Ne.symm e)
theorem AI.set {j : Nat} {v : Int32} (F : AI Z h a ty n f) (W : Wr h h' a j (.int v)) (hj : j < n) : AI Z h' a ty n (up f j v) := by
  obtain ⟨c, A, r1, r2⟩ := F
  refine ⟨_, A.same W, by rw [sz_set]; exact r1, fun k hk => ?_⟩
  rw [slots_set (by omega)]
  by_cases e : k = j
  · rw [if_pos e, e, up_same]
  · rw [if_neg e, up_other _ _ e]; exact r2 k hk
theorem AJ.set {j : Nat} {v : Int64} (F : AJ Z h a n q) (W : Wr h h' a j (.long v)) (hj : j < n) : AJ Z h' a n (up q j v) := by
  obtain ⟨c, A, r1, r2⟩ := F
  refine ⟨_, A.same W, by rw [sz_set]; exact r1, fun k hk => ?_⟩
  rw [slots_set (by omega)]
  by_cases e : k = j
  · rw [if_pos e, e, up_same]
  · rw [if_neg e, up_other _ _ e]; exact r2 k hk
theorem clamp {z : Int32} (hz : z.toInt = n) : z.toNatClampNeg = n := by simp only [Int32.toNatClampNeg]; omega
theorem AI.new {k : ClassId} {z : Int32} (A : Arr Z h a (newA k ty z) ty) (hz : z.toInt = n) (hd : defaultValue ty = .int 0) : AI Z h a ty n (fun _ => 0) :=
  ⟨_, A, by rw [sz_new]; exact clamp hz, fun i hi => by rw [← clamp hz] at hi; simp [newA, hi, hd]⟩
theorem AJ.new {k : ClassId} {z : Int32} (A : Arr Z h a (newA k .long z) .long) (hz : z.toInt = n) : AJ Z h a n (fun _ => 0) :=
  ⟨_, A, by rw [sz_new]; exact clamp hz, fun i hi => by rw [← clamp hz] at hi; simp [newA, hi, defaultValue]⟩
theorem AI.congr {f' : Nat → Int32} (F : AI Z h a ty n f) (e : ∀ k, k < n → f' k = f k) : AI Z h a ty n f' := by obtain ⟨c, A, r1, r2⟩ := F; exact ⟨c, A, r1, fun k hk => by rw [e k hk]; exact r2 k hk⟩
theorem AJ.congr {f' : Nat → Int64} (F : AJ Z h a n q) (e : ∀ k, k < n → f' k = q k) : AJ Z h a n f' := by obtain ⟨c, A, r1, r2⟩ := F; exact ⟨c, A, r1, fun k hk => by rw [e k hk]; exact r2 k hk⟩
theorem inb {j : Int32} {k sz : Nat} (hj : j.toInt = k) (hk : k < sz) : ¬ (j < 0 ∨ sz ≤ j.toNatClampNeg) := by
  rw [clamp hj, Int32.lt_iff_toInt_lt, hj, show (0 : Int32).toInt = 0 from rfl]; omega
theorem szI {z : Int32} (hz : z.toInt = n) : Nat.toInt32 n = z := by
  rw [← Int32.toInt_inj, len_toInt (by have := z.toInt_lt; omega), hz]
end Arrays
section Steps
variable {p : Program} {l : Launch} {e : Env} {R : Room} {s : State} {m : MethodId} {args : Array Value} {below : List Frame} {meth : Method} {c : Code} {T T' : State} {locs : List Loc} {cells slots : Nat} {P : Option Value → Heap → List Loc → Prop} {C N : Nat} {Ls : Array Slot} {S : List Value} {pc pc' : Nat} {Z : State} {h : Heap} {a : Addr} {n n0 : Nat} {f : Nat → Int32} {q : Nat → Int64} {a0 : Array Value} {ty : FieldType}
theorem getf (X : Stand p l e R s m args below meth c T locs cells slots) (hx : p.tables.exec = Jvm.exec) (hZ : Z.Warmed39 s.vm) {own R0 O n d host : String} {index : Nat} (hown : s.vm.findClass own = some m.cls) (w : (Cond.fieldLink own index R0 n d).before a0 Z = true ∨ (Cond.fieldLinkNest own index R0 n d host).before a0 Z = true) (via : Via Z R0 O n d)
    (eT : T.heap = h) {v : Value} (F : Fld Z h a O n d v) (hd : decode c.code pc = .ok (.getfield index, 3)) (hq : pc + 3 = pc') (K : ∀ T', Stand p l e R s m args below meth c T' locs cells slots → T'.heap = h → Gl p e below s P C N T' (mkF m pc' Ls (v :: S))) : Gl p e below s P C N T (mkF m pc Ls (.ref a :: S)) := by
  subst hq
  obtain ⟨T', X', e', st⟩ := getF X hx hZ hown w via eT F (g := mkF m pc Ls (.ref a :: S)) rfl rfl hd
  exact s2 _ st (K T' X' e')
theorem gets (X : Stand p l e R s m args below meth c T locs cells slots) (hx : p.tables.exec = Jvm.exec) (hZ : Z.Warmed39 s.vm) {own R0 O n d host : String} {index : Nat} (hown : s.vm.findClass own = some m.cls) (w : (Cond.fieldLink own index R0 n d).before a0 Z = true ∨ (Cond.fieldLinkNest own index R0 n d host).before a0 Z = true) (via : Via Z R0 O n d)
    (eT : T.heap = h) {v : Value} (F : Sta Z h O n d v) (hd : decode c.code pc = .ok (.getstatic index, 3)) (hq : pc + 3 = pc') (K : ∀ T', Stand p l e R s m args below meth c T' locs cells slots → T'.heap = h → Gl p e below s P C N T' (mkF m pc' Ls (v :: S))) : Gl p e below s P C N T (mkF m pc Ls S) := by
  subst hq
  obtain ⟨T', X', e', st⟩ := getS2 X hx hZ hown w via eT F (g := mkF m pc Ls S) rfl hd
  exact s2 _ st (K T' X' e')
theorem putf (X : Stand p l e R s m args below meth c T locs cells slots) (hx : p.tables.exec = Jvm.exec) (hZ : Z.Warmed39 s.vm) {own R0 O n d host Cl : String} {index kk : Nat} (hown : s.vm.findClass own = some m.cls) (w : (Cond.fieldLink own index R0 n d).before a0 Z = true ∨ (Cond.fieldLinkNest own index R0 n d host).before a0 Z = true) (via : Via Z R0 O n d)
    (eT : T.heap = h) {v old : Value} (F : Fld Z h a O n d old) (E : Exa Z h a Cl) (L : (Cond.lays Cl O n d).before a0 Z = true ∨ ((Cond.laysFinal Cl O n d).before a0 Z = true ∧ own = O ∧ meth.name = "<init>")) (wi : (Cond.instantiable Cl kk).before a0 Z = true)
    (hty : parseFieldDescriptor d = some ty) (hn : narrow ty v = v) (hf : fits ty v = true) (N0 : Fr n0 locs) (ga : n0 ≤ a) (hd : decode c.code pc = .ok (.putfield index, 3)) (hq : pc + 3 = pc')
    (K : ∀ T' h' L', Stand p l e R s m args below meth c T' L' cells slots → T'.heap = h' → Wr h h' a (RoadKit.slotOf Z O n d) v → Fld Z h' a O n d v → Fr n0 L' → Gl p e below s P C N T' (mkF m pc' Ls S)) : Gl p e below s P C N T (mkF m pc Ls (v :: .ref a :: S)) := by
  subst hq
  obtain ⟨T', h', X', e', W, st⟩ := putF X hx hZ hown w via eT F E L wi hty hn hf (g := mkF m pc Ls (v :: .ref a :: S)) rfl rfl hd
  exact s2 _ st (K T' h' _ X' e' W (F.same W) (Fr.snoc X' N0 ga))
theorem newo (X : Stand p l e R s m args below meth c T locs cells slots) (hx : p.tables.exec = Jvm.exec) (hZ : Z.Warmed39 s.vm) {own Cl : String} {index n : Nat} (hown : s.vm.findClass own = some m.cls) (w : (Cond.classLink own index Cl).before a0 Z = true) (wi : (Cond.instantiable Cl n).before a0 Z = true) (wz : (Cond.initialized Cl).before a0 Z = true) (eT : T.heap = h)
    (hd : decode c.code pc = .ok (.new index, 3)) (hc : cells + 1 ≤ R.cells) (hl : slots + n ≤ R.slots) (hq : pc + 3 = pc')
    (K : ∀ T' h' a, Stand p l e R s m args below meth c T' locs (cells + 1) (slots + n) → T'.heap = h' → Ext h h' → a = h.size → Exa Z h' a Cl → (∀ {O nm d : String} {ty : FieldType}, Laid Z a0 Cl O nm d → parseFieldDescriptor d = some ty → Fld Z h' a O nm d (defaultValue ty)) → Gl p e below s P C N T' (mkF m pc' Ls (.ref a :: S))) : Gl p e below s P C N T (mkF m pc Ls S) := by
  subst hq
  obtain ⟨T', h', X', e', E, A, D, -, st⟩ := newO X hx hZ hown w wi wz eT (g := mkF m pc Ls S) rfl hd hc hl
  exact s2 _ st (K T' h' _ X' e' E rfl A D)
theorem newi (X : Stand p l e R s m args below meth c T locs cells slots) (hx : p.tables.exec = Jvm.exec) (hZ : Z.Warmed39 s.vm) {aty : ArrayType} (w : (Cond.arrayClass ty).before a0 Z = true) (hty : newarray.typeOf aty = ty) (hdv : defaultValue ty = .int 0) (eT : T.heap = h) {z : Int32} (hd : decode c.code pc = .ok (.newarray aty, 2)) (hz : z.toInt = n) {cap : Nat} (hcap : n ≤ cap) (hb : cap * 8 ≤ 536870912) (hc : cells + 1 ≤ R.cells) (hl : slots + cap ≤ R.slots) (hq : pc + 2 = pc')
    (K : ∀ T' h' a, Stand p l e R s m args below meth c T' locs (cells + 1) (slots + cap) → T'.heap = h' → Ext h h' → a = h.size → AI Z h' a ty n (fun _ => 0) → Gl p e below s P C N T' (mkF m pc' Ls (.ref a :: S))) : Gl p e below s P C N T (mkF m pc Ls (.int z :: S)) := by
  subst hq hty
  obtain ⟨T', h', k, X', e', E, A, st⟩ := newP X hx hZ w eT (g := mkF m pc Ls (.int z :: S)) rfl hd rfl (by rw [Int32.lt_iff_toInt_lt, hz, show (0 : Int32).toInt = 0 from rfl]; omega) (cap := cap) (by rw [clamp hz]; exact hcap) hb hc hl
  exact s2 _ st (K T' h' _ X' e' E rfl (AI.new A hz hdv))
theorem newj (X : Stand p l e R s m args below meth c T locs cells slots) (hx : p.tables.exec = Jvm.exec) (hZ : Z.Warmed39 s.vm) (w : (Cond.arrayClass .long).before a0 Z = true) (eT : T.heap = h) {z : Int32} (hd : decode c.code pc = .ok (.newarray .long, 2)) (hz : z.toInt = n) {cap : Nat} (hcap : n ≤ cap) (hb : cap * 8 ≤ 536870912) (hc : cells + 1 ≤ R.cells) (hl : slots + cap ≤ R.slots) (hq : pc + 2 = pc')
    (K : ∀ T' h' a, Stand p l e R s m args below meth c T' locs (cells + 1) (slots + cap) → T'.heap = h' → Ext h h' → a = h.size → AJ Z h' a n (fun _ => 0) → Gl p e below s P C N T' (mkF m pc' Ls (.ref a :: S))) : Gl p e below s P C N T (mkF m pc Ls (.int z :: S)) := by
  subst hq
  obtain ⟨T', h', k, X', e', E, A, st⟩ := newP X hx hZ (aty := .long) w eT (g := mkF m pc Ls (.int z :: S)) rfl hd rfl (by rw [Int32.lt_iff_toInt_lt, hz, show (0 : Int32).toInt = 0 from rfl]; omega) (cap := cap) (by rw [clamp hz]; exact hcap) hb hc hl
  exact s2 _ st (K T' h' _ X' e' E rfl (AJ.new A hz))
theorem ldi (X : Stand p l e R s m args below meth c T locs cells slots) (hx : p.tables.exec = Jvm.exec) (hZ : Z.Warmed39 s.vm) (eT : T.heap = h) (F : AI Z h a .int n f) {j : Int32} (k : Nat) (hj : j.toInt = k) (hk : k < n) (hd : decode c.code pc = .ok (.iaload, 1)) (hq : pc + 1 = pc')
    (K : Gl p e below s P C N T (mkF m pc' Ls (.int (f k) :: S))) : Gl p e below s P C N T (mkF m pc Ls (.int j :: .ref a :: S)) := by
  subst hq
  obtain ⟨cl, A, r1, r2⟩ := F
  exact s1 _ (fun t q => X.iaload hx (v := .int (f k)) (by rw [eT]; exact A.1) (State.isArrayOf_alike hZ.alike A.2.1) A.2.2 (inb hj (by omega)) (by rw [clamp hj]; exact r2 k hk) (g := mkF m pc Ls (.int j :: .ref a :: S)) rfl rfl hd t q) K
theorem ldz (X : Stand p l e R s m args below meth c T locs cells slots) (hx : p.tables.exec = Jvm.exec) (hZ : Z.Warmed39 s.vm) (eT : T.heap = h) (F : AI Z h a .boolean n f) {j : Int32} (k : Nat) (hj : j.toInt = k) (hk : k < n) (hd : decode c.code pc = .ok (.baload, 1)) (hq : pc + 1 = pc')
    (K : Gl p e below s P C N T (mkF m pc' Ls (.int (f k) :: S))) : Gl p e below s P C N T (mkF m pc Ls (.int j :: .ref a :: S)) := by
  subst hq
  obtain ⟨cl, A, r1, r2⟩ := F
  exact s1 _ (fun t q => X.baloadBooleans hx (v := .int (f k)) (by rw [eT]; exact A.1) (State.isArrayOf_alike hZ.alike A.2.1) A.2.2 (inb hj (by omega)) (by rw [clamp hj]; exact r2 k hk) (g := mkF m pc Ls (.int j :: .ref a :: S)) rfl rfl hd t q) K
theorem ldb (X : Stand p l e R s m args below meth c T locs cells slots) (hx : p.tables.exec = Jvm.exec) (hZ : Z.Warmed39 s.vm) (eT : T.heap = h) (F : AI Z h a .byte n f) {j : Int32} (k : Nat) (hj : j.toInt = k) (hk : k < n) (hd : decode c.code pc = .ok (.baload, 1)) (hq : pc + 1 = pc')
    (K : Gl p e below s P C N T (mkF m pc' Ls (.int (f k) :: S))) : Gl p e below s P C N T (mkF m pc Ls (.int j :: .ref a :: S)) := by
  subst hq
  obtain ⟨cl, A, r1, r2⟩ := F
  exact s1 _ (fun t q => X.baloadBytes hx (v := .int (f k)) (by rw [eT]; exact A.1) (State.isArrayOf_alike hZ.alike A.2.1) A.2.2 (inb hj (by omega)) (by rw [clamp hj]; exact r2 k hk) (g := mkF m pc Ls (.int j :: .ref a :: S)) rfl rfl hd t q) K
theorem ldj (X : Stand p l e R s m args below meth c T locs cells slots) (hx : p.tables.exec = Jvm.exec) (hZ : Z.Warmed39 s.vm) (eT : T.heap = h) (F : AJ Z h a n q) {j : Int32} (k : Nat) (hj : j.toInt = k) (hk : k < n) (hd : decode c.code pc = .ok (.laload, 1)) (hq : pc + 1 = pc')
    (K : Gl p e below s P C N T (mkF m pc' Ls (.long (q k) :: S))) : Gl p e below s P C N T (mkF m pc Ls (.int j :: .ref a :: S)) := by
  subst hq
  obtain ⟨cl, A, r1, r2⟩ := F
  exact s1 _ (fun t u => X.laload hx (v := .long (q k)) (by rw [eT]; exact A.1) (State.isArrayOf_alike hZ.alike A.2.1) A.2.2 (inb hj (by omega)) (by rw [clamp hj]; exact r2 k hk) (g := mkF m pc Ls (.int j :: .ref a :: S)) rfl rfl hd t u) K
theorem alen (X : Stand p l e R s m args below meth c T locs cells slots) (hx : p.tables.exec = Jvm.exec) (hZ : Z.Warmed39 s.vm) (eT : T.heap = h) (F : AI Z h a ty n f) {z : Int32} (hz : z.toInt = n) (hd : decode c.code pc = .ok (.arraylength, 1)) (hq : pc + 1 = pc')
    (K : Gl p e below s P C N T (mkF m pc' Ls (.int z :: S))) : Gl p e below s P C N T (mkF m pc Ls (.ref a :: S)) := by
  subst hq
  obtain ⟨cl, A, r1, r2⟩ := F
  exact s1 _ (fun t u => X.arraylength hx (by rw [eT]; exact A.1) (State.isArrayOf_alike hZ.alike A.2.1) (g := mkF m pc Ls (.ref a :: S)) rfl rfl hd t (by rw [r1, szI hz]; exact u)) K
theorem alenJ (X : Stand p l e R s m args below meth c T locs cells slots) (hx : p.tables.exec = Jvm.exec) (hZ : Z.Warmed39 s.vm) (eT : T.heap = h) (F : AJ Z h a n q) {z : Int32} (hz : z.toInt = n) (hd : decode c.code pc = .ok (.arraylength, 1)) (hq : pc + 1 = pc')
    (K : Gl p e below s P C N T (mkF m pc' Ls (.int z :: S))) : Gl p e below s P C N T (mkF m pc Ls (.ref a :: S)) := by
  subst hq
  obtain ⟨cl, A, r1, r2⟩ := F
  exact s1 _ (fun t u => X.arraylength hx (by rw [eT]; exact A.1) (State.isArrayOf_alike hZ.alike A.2.1) (g := mkF m pc Ls (.ref a :: S)) rfl rfl hd t (by rw [r1, szI hz]; exact u)) K
theorem sti (X : Stand p l e R s m args below meth c T locs cells slots) (hx : p.tables.exec = Jvm.exec) (hZ : Z.Warmed39 s.vm) (eT : T.heap = h) (F : AI Z h a .int n f) {j x : Int32} (k : Nat) (hj : j.toInt = k) (hk : k < n) (N0 : Fr n0 locs) (ga : n0 ≤ a) (hd : decode c.code pc = .ok (.iastore, 1)) (hq : pc + 1 = pc')
    (K : ∀ T' h' L', Stand p l e R s m args below meth c T' L' cells slots → T'.heap = h' → Wr h h' a k (.int x) → AI Z h' a .int n (up f k x) → Fr n0 L' → Gl p e below s P C N T' (mkF m pc' Ls S)) : Gl p e below s P C N T (mkF m pc Ls (.int x :: .int j :: .ref a :: S)) := by
  subst hq
  obtain ⟨cl, A, r1, r2⟩ := F
  obtain ⟨T', h', X', e', W, st⟩ := stI X hx hZ eT A (inb hj (by omega)) (g := mkF m pc Ls (.int x :: .int j :: .ref a :: S)) rfl rfl hd
  have N1 := Fr.snoc X' N0 ga
  rw [clamp hj] at W
  exact s2 _ st (K T' h' _ X' e' W (AI.set ⟨cl, A, r1, r2⟩ W hk) N1)
theorem stz (X : Stand p l e R s m args below meth c T locs cells slots) (hx : p.tables.exec = Jvm.exec) (hZ : Z.Warmed39 s.vm) (eT : T.heap = h) (F : AI Z h a .boolean n f) {j x x' : Int32} (hn : nar .boolean x = x') (k : Nat) (hj : j.toInt = k) (hk : k < n) (N0 : Fr n0 locs) (ga : n0 ≤ a) (hd : decode c.code pc = .ok (.bastore, 1)) (hq : pc + 1 = pc')
    (K : ∀ T' h' L', Stand p l e R s m args below meth c T' L' cells slots → T'.heap = h' → Wr h h' a k (.int x') → AI Z h' a .boolean n (up f k x') → Fr n0 L' → Gl p e below s P C N T' (mkF m pc' Ls S)) : Gl p e below s P C N T (mkF m pc Ls (.int x :: .int j :: .ref a :: S)) := by
  subst hq hn
  obtain ⟨cl, A, r1, r2⟩ := F
  obtain ⟨T', h', X', e', W, st⟩ := stZ X hx hZ eT A (inb hj (by omega)) (g := mkF m pc Ls (.int x :: .int j :: .ref a :: S)) rfl rfl hd
  have N1 := Fr.snoc X' N0 ga
  rw [clamp hj] at W
  exact s2 _ st (K T' h' _ X' e' W (AI.set ⟨cl, A, r1, r2⟩ W hk) N1)
theorem stb (X : Stand p l e R s m args below meth c T locs cells slots) (hx : p.tables.exec = Jvm.exec) (hZ : Z.Warmed39 s.vm) (eT : T.heap = h) (F : AI Z h a .byte n f) {j x x' : Int32} (hn : nar .byte x = x') (k : Nat) (hj : j.toInt = k) (hk : k < n) (N0 : Fr n0 locs) (ga : n0 ≤ a) (hd : decode c.code pc = .ok (.bastore, 1)) (hq : pc + 1 = pc')
    (K : ∀ T' h' L', Stand p l e R s m args below meth c T' L' cells slots → T'.heap = h' → Wr h h' a k (.int x') → AI Z h' a .byte n (up f k x') → Fr n0 L' → Gl p e below s P C N T' (mkF m pc' Ls S)) : Gl p e below s P C N T (mkF m pc Ls (.int x :: .int j :: .ref a :: S)) := by
  subst hq hn
  obtain ⟨cl, A, r1, r2⟩ := F
  obtain ⟨T', h', X', e', W, st⟩ := stB X hx hZ eT A (inb hj (by omega)) (g := mkF m pc Ls (.int x :: .int j :: .ref a :: S)) rfl rfl hd
  have N1 := Fr.snoc X' N0 ga
  rw [clamp hj] at W
  exact s2 _ st (K T' h' _ X' e' W (AI.set ⟨cl, A, r1, r2⟩ W hk) N1)
theorem stj (X : Stand p l e R s m args below meth c T locs cells slots) (hx : p.tables.exec = Jvm.exec) (hZ : Z.Warmed39 s.vm) (eT : T.heap = h) (F : AJ Z h a n q) {j : Int32} {x : Int64} (k : Nat) (hj : j.toInt = k) (hk : k < n) (N0 : Fr n0 locs) (ga : n0 ≤ a) (hd : decode c.code pc = .ok (.lastore, 1)) (hq : pc + 1 = pc')
    (K : ∀ T' h' L', Stand p l e R s m args below meth c T' L' cells slots → T'.heap = h' → Wr h h' a k (.long x) → AJ Z h' a n (up q k x) → Fr n0 L' → Gl p e below s P C N T' (mkF m pc' Ls S)) : Gl p e below s P C N T (mkF m pc Ls (.long x :: .int j :: .ref a :: S)) := by
  subst hq
  obtain ⟨cl, A, r1, r2⟩ := F
  obtain ⟨T', h', X', e', W, st⟩ := stJ X hx hZ eT A (inb hj (by omega)) (g := mkF m pc Ls (.long x :: .int j :: .ref a :: S)) rfl rfl hd
  have N1 := Fr.snoc X' N0 ga
  rw [clamp hj] at W
  exact s2 _ st (K T' h' _ X' e' W (AJ.set ⟨cl, A, r1, r2⟩ W hk) N1)
end Steps
end Jvm.Pilot.@@N@@.W
namespace Jvm.Pilot.@@N@@
open Jvm Jvm.ClassFile Sem Op Lib Jvm.Free Jvm.Stand Jvm.LawKit Jvm.RoadKit Bundle Jvm.Pilot.@@N@@.Jvm.D
theorem own_eqI {args : Array Value} {Z : State} {t : Term} {k : Int32} (h : (Jvm.Cond.eq t (.int k)).value args Z none Z [] = some true) : t.eval args Z none [] Z = some (.int k) := by
  obtain ⟨x, y, h1, h2, k1, k2⟩ := cmp_v (Or.inl h)
  cases (Term.int_eval k).symm.trans h2
  obtain ⟨z, rfl⟩ := k2
  have := gotT (Cond.eq_ints h1 (Term.int_eval k)) h
  rw [h1, this]
theorem own_eqJ {args : Array Value} {Z : State} {t : Term} {k : Int64} (h : (Jvm.Cond.eq t (.long k)).value args Z none Z [] = some true) : t.eval args Z none [] Z = some (.long k) := by
  obtain ⟨x, y, h1, h2, k1, k2⟩ := cmp_v (Or.inl h)
  have e : (Term.long k).eval args Z none [] Z = some (.long k) := rfl
  cases e.symm.trans h2
  obtain ⟨z, rfl⟩ := k2
  have := gotT (eq_L h1 e) h
  rw [h1, this]
theorem own_l1 : (1 : Int32).toInt = 1 := rfl
theorem own_l2 : (2 : Int32).toInt = 2 := rfl
theorem own_l4 : (4 : Int32).toInt = 4 := rfl
theorem own_l8 : (8 : Int32).toInt = 8 := rfl
theorem own_l12 : (12 : Int32).toInt = 12 := rfl
theorem own_l16 : (16 : Int32).toInt = 16 := rfl
theorem own_l20 : (20 : Int32).toInt = 20 := rfl
theorem own_l24 : (24 : Int32).toInt = 24 := rfl
theorem own_l28 : (28 : Int32).toInt = 28 := rfl
theorem own_l32 : (32 : Int32).toInt = 32 := rfl
theorem own_l40 : (40 : Int32).toInt = 40 := rfl
theorem own_l48 : (48 : Int32).toInt = 48 := rfl
theorem own_l56 : (56 : Int32).toInt = 56 := rfl
theorem own_l64 : (64 : Int32).toInt = 64 := rfl
def own_set (t : Int) : Prop := t = 1 ∨ t = 2 ∨ t = 4 ∨ t = 8 ∨ t = 12 ∨ t = 16 ∨ t = 20 ∨ t = 24 ∨ t = 28 ∨ t = 32 ∨ t = 40 ∨ t = 48 ∨ t = 56 ∨ t = 64
def own_wn (k : Nat) : Nat := if k ≤ 2 then k else if k < 5 then 4 else if k < 9 then 8 else if k < 13 then 12 else if k < 17 then 16 else if k < 21 then 20 else if k < 25 then 24 else if k < 29 then 28 else if k < 33 then 32 else if k < 41 then 40 else if k < 49 then 48 else if k < 57 then 56 else 64
def own_w (k : Nat) : Int32 := Int32.ofNat (own_wn k)
theorem own_tab : ∀ k : Fin 65, 1 ≤ k.1 → ((own_w k.1).toInt = k.1 ↔ (k.1 = 1 ∨ k.1 = 2 ∨ k.1 = 4 ∨ k.1 = 8 ∨ k.1 = 12 ∨ k.1 = 16 ∨ k.1 = 20 ∨ k.1 = 24 ∨ k.1 = 28 ∨ k.1 = 32 ∨ k.1 = 40 ∨ k.1 = 48 ∨ k.1 = 56 ∨ k.1 = 64)) := by decide +kernel
theorem own_orR {args : Array Value} {Z : State} {idx : List Nat} {a b : Jvm.Cond} (h : (Jvm.Cond.or a b).value args Z none Z idx = some true) (ha : a.value args Z none Z idx = some false) : b.value args Z none Z idx = some true := by
  simp only [Cond.value, ha] at h
  cases hb : b.value args Z none Z idx with
  | none => simp [hb] at h
  | some q => simpa [hb] using h
theorem own_eqX {args : Array Value} {Z : State} {t : Term} {k : Int32} {idx : List Nat} (h : (Jvm.Cond.eq t (.int k)).value args Z none Z idx = some true) : t.eval args Z none idx Z = some (.int k) := by
  obtain ⟨x, y, h1, h2, k1, k2⟩ := cmp_v (Or.inl h)
  cases (Term.int_eval k).symm.trans h2
  obtain ⟨z, rfl⟩ := k2
  have := gotT (Cond.eq_ints h1 (Term.int_eval k)) h
  rw [h1, this]
theorem own_len {args : Array Value} {Z : State} {t : Term} {v : Value} {a : Addr} {cl : Cell} (ht : t.eval args Z none [] Z = some (.ref a)) (hc : Z.arrayAt? a = some cl) (h : (Term.length t).eval args Z none [] Z = some v) : cl.slots.size < 2 ^ 31 := by
  simp only [Term.eval, Option.bind_eq_bind] at h
  simp [ht] at h
  obtain ⟨cell, hcell, h⟩ := Option.bind_eq_some_iff.mp h
  cases hc.symm.trans hcell
  by_cases hn : cl.slots.size < 2147483648
  · exact hn
  · rw [if_neg hn] at h; cases h
theorem own_slot {args : Array Value} {Z : State} {t i : Term} {a : Addr} {cl : Cell} {j v : Int32} {idx : List Nat} (ht : t.eval args Z none idx Z = some (.ref a)) (hc : Z.heap[a]? = some cl) (hi : i.eval args Z none idx Z = some (.int j)) (h : (Term.elem t i).eval args Z none idx Z = some (.int v)) : cl.slots[j.toNatClampNeg]? = some (.int v) := (elem_in h ht hi hc).2
theorem own_rng {args : Array Value} {Z : State} {t : Term} {a : Addr} {cl : Cell} {lo hi v : Int32} {k : Nat} (hk : k < 65) (ht : ∀ idx, t.eval args Z none idx Z = some (.ref a)) (A : Arr Z Z.heap a cl .int) (hs : cl.slots.size = 65)
    (h : (Jvm.Cond.all t (.or (.lt (.index 0) (.int lo)) (.or (.le (.int hi) (.index 0)) (.eq (.elem t (.index 0)) (.int v))))).value args Z none Z [] = some true) (h1 : ¬ Int32.ofNat k < lo) (h2 : ¬ hi ≤ Int32.ofNat k) : cl.slots[k]? = some (.int v) := by
  have e1 : (Int32.ofNat k).toInt = k := Int32.toInt_ofNat_small (by omega)
  have e2 : (Int32.ofNat k).toNatClampNeg = k := W.clamp e1
  have nn : ¬ Int32.ofNat k < 0 := by rw [Int32.lt_iff_toInt_lt, e1, show (0 : Int32).toInt = 0 from rfl]; omega
  have q := Cond.all_elim (ht []) (A.fin (Vm.Alike.refl _)) h k (by omega)
  have ix : (Term.index 0).eval args Z none [k] Z = some (.int (Int32.ofNat k)) := by have := idx_at (args := args) (s := Z) (first := Z) (o := none) nn; rwa [e2] at this
  have q1 := own_orR q ((Cond.lt_ints ix (Term.int_eval lo)).trans (by rw [decide_eq_false h1]))
  have q2 := own_orR q1 ((Cond.le_ints (Term.int_eval hi) ix).trans (by rw [decide_eq_false h2]))
  have q3 := own_slot (ht [k]) A.1 ix (own_eqX q2)
  rwa [e2] at q3
theorem own_rngL {args : Array Value} {Z : State} {t : Term} {a : Addr} {cl : Cell} {lo v : Int32} {k : Nat} (hk : k < 65) (ht : ∀ idx, t.eval args Z none idx Z = some (.ref a)) (A : Arr Z Z.heap a cl .int) (hs : cl.slots.size = 65)
    (h : (Jvm.Cond.all t (.or (.lt (.index 0) (.int lo)) (.eq (.elem t (.index 0)) (.int v)))).value args Z none Z [] = some true) (h1 : ¬ Int32.ofNat k < lo) : cl.slots[k]? = some (.int v) := by
  have e1 : (Int32.ofNat k).toInt = k := Int32.toInt_ofNat_small (by omega)
  have e2 : (Int32.ofNat k).toNatClampNeg = k := W.clamp e1
  have nn : ¬ Int32.ofNat k < 0 := by rw [Int32.lt_iff_toInt_lt, e1, show (0 : Int32).toInt = 0 from rfl]; omega
  have q := Cond.all_elim (ht []) (A.fin (Vm.Alike.refl _)) h k (by omega)
  have ix : (Term.index 0).eval args Z none [k] Z = some (.int (Int32.ofNat k)) := by have := idx_at (args := args) (s := Z) (first := Z) (o := none) nn; rwa [e2] at this
  have q1 := own_orR q ((Cond.lt_ints ix (Term.int_eval lo)).trans (by rw [decide_eq_false h1]))
  have q3 := own_slot (ht [k]) A.1 ix (own_eqX q1)
  rwa [e2] at q3
theorem pn_0 : plainName "com/example/bitpress/bitpress/FixedWidthStream" = true := by first | (simp [plainName, overriddenIn]; done) | decide +kernel
theorem ef_1 (m : MethodId) (x0 : Int32) : entryFrame m #[(.int x0)] 1 = mkF m 0 #[.val (.int x0)] [] := by first | (simp [entryFrame, mkF, argsToLocals, Value.category]; done) | rfl
theorem d1_0 : decode prog_21_method_3_code 0 = .ok (.iload_n 0, 1) := by decide +kernel
theorem d1_1 : decode prog_21_method_3_code 1 = .ok (.iconst 1, 1) := by decide +kernel
theorem d1_2 : decode prog_21_method_3_code 2 = .ok (.if_icmp .lt 22, 3) := by decide +kernel
theorem d1_24 : decode prog_21_method_3_code 24 = .ok (.iconst 0, 1) := by decide +kernel
theorem d1_25 : decode prog_21_method_3_code 25 = .ok (.ireturn, 1) := by decide +kernel
theorem d1_5 : decode prog_21_method_3_code 5 = .ok (.iload_n 0, 1) := by decide +kernel
theorem d1_6 : decode prog_21_method_3_code 6 = .ok (.bipush 64, 2) := by decide +kernel
theorem d1_8 : decode prog_21_method_3_code 8 = .ok (.if_icmp .gt 16, 3) := by decide +kernel
theorem d1_11 : decode prog_21_method_3_code 11 = .ok (.getstatic 11, 3) := by decide +kernel
theorem d1_14 : decode prog_21_method_3_code 14 = .ok (.iload_n 0, 1) := by decide +kernel
theorem d1_15 : decode prog_21_method_3_code 15 = .ok (.iaload, 1) := by decide +kernel
theorem d1_16 : decode prog_21_method_3_code 16 = .ok (.iload_n 0, 1) := by decide +kernel
theorem d1_17 : decode prog_21_method_3_code 17 = .ok (.if_icmp .ne 7, 3) := by decide +kernel
theorem d1_20 : decode prog_21_method_3_code 20 = .ok (.iconst 1, 1) := by decide +kernel
theorem d1_21 : decode prog_21_method_3_code 21 = .ok (.goto 4, 3) := by decide +kernel
def Q1 (Z : State) (xb : Int32) (aw : Addr) (h0 : Heap) (n0 : Nat) (v : Option Value) (h : Heap) (L : List Loc) : Prop := ∃ r : Int32, v = some (.int r) ∧ Fr n0 L ∧ h = h0 ∧ ((r = 1 ∧ own_set xb.toInt) ∨ (r = 0 ∧ ¬ own_set xb.toInt))
set_option maxRecDepth 65536 in
set_option maxHeartbeats 40000000 in
theorem rm1 (l : Launch) (Z : State) (a0 : Array Value) (hw : ∀ d ∈ tables_1, d.before a0 Z = true) (ws : List Jvm.Cond) (xb : Int32) (aw : Addr) (h0 : Heap) (n0 : Nat) (Z0 : n0 ≤ h0.size) (S0 : Sta Z h0 "com/example/bitpress/bitpress/FixedWidthStream" "WIDTH_FOR_BITS" "[I" (.ref aw)) (A0 : W.AI Z h0 aw .int 65 own_w) :
    MetFree l (⟨"com/example/bitpress/bitpress/FixedWidthStream", "isWidth", "(I)Z"⟩ : MethodName) (head1 (Jvm.Cond.code (⟨"com/example/bitpress/bitpress/FixedWidthStream", "isWidth", "(I)Z"⟩ : MethodName) prog_21_method_3_code 1 (some .boolean) :: ws) ({ frames := 0, cells := 0, slots := 0, locals := 0 } : Room)) (fun a U => a = #[(.int xb)] ∧ Z.Warmed39 U.vm ∧ U.heap = h0) (fun _ _ _ _ _ => True) (fun _ U o U' => ∃ v L, o = .returned v ∧ Q1 Z xb aw h0 n0 v U'.heap L ∧ FrameEnd U o U' L ({ frames := 0, cells := 0, slots := 0, locals := 0 } : Room).cells ({ frames := 0, cells := 0, slots := 0, locals := 0 } : Room).slots) := by
  refine MetFree.of_bodySF (plainFor_of_name pn_0) hisR ?_
  intro p e s m args below meth c s₁ Bd hml0 hP hK
  obtain ⟨rfl, hZ, hh⟩ := hP
  have hx := Bd.exec
  have hby := Bd.bytes
  have hml : c.maxLocals = 1 := hml0
  have hown : s.vm.findClass "com/example/bitpress/bitpress/FixedWidthStream" = some m.cls := findClass_of_methodNamed Bd.named
  have hnm := (name_of_methodNamed Bd.named Bd.method).1
  have hlk : meth.locks = false := BodyLoose.notSynchronized Bd
  have X0 : Stand p l e ({ frames := 0, cells := 0, slots := 0, locals := 0 } : Room) s m #[(.int xb)] below meth c s₁ [] 0 0 := Stand.of_body Bd
  have e0 : s₁.heap = h0 := by rw [← hh, Bd.state]; rfl
  have N0 := Fr.nil n0
  show W.Gl p e below s (Q1 Z xb aw h0 n0) ({ frames := 0, cells := 0, slots := 0, locals := 0 } : Room).cells ({ frames := 0, cells := 0, slots := 0, locals := 0 } : Room).slots s₁ (entryFrame m #[(.int xb)] 1)
  refine W.cast (ef_1 m xb) ?_
  refine W.s1 (mkF m 1 #[.val (.int xb)] [(.int xb)]) (fun _ kx_ => XS.iloadN X0.here hx rfl (hb hby d1_0) rfl kx_) ?_
  refine W.s1 (mkF m 2 #[.val (.int xb)] [(.int (1 : Int32)), (.int xb)]) (fun _ kx_ => XS.iconst X0.here hx rfl (hb hby d1_1) kx_) ?_
  refine W.icmp X0 hx (hb hby d1_2) (pc' := 24) (pc'' := 5) (by decide) (by decide) rfl (fun (c2 : xb < (1 : Int32)) => ?_) (fun (c2 : ¬ xb < (1 : Int32)) => ?_)
  · refine W.s1 (mkF m 25 #[.val (.int xb)] [(.int (0 : Int32))]) (fun _ kx_ => XS.iconst X0.here hx rfl (hb hby d1_24) kx_) ?_
    exact W.retZ X0 hx hlk (t := .boolean) (z' := (0 : Int32)) Bd.returns (by simp) (hb hby d1_25) rfl (by show Q1 Z xb aw h0 n0 _ s₁.heap _; rw [e0]; refine ⟨_, rfl, N0, rfl, Or.inr ⟨rfl, ?_⟩⟩; simp only [Int32.lt_iff_toInt_lt, own_l1, own_l2, own_l4, own_l8, own_l12, own_l16, own_l20, own_l24, own_l28, own_l32, own_l40, own_l48, own_l56, own_l64] at c2; unfold own_set; omega) (by decide) (by decide)
  · refine W.s1 (mkF m 6 #[.val (.int xb)] [(.int xb)]) (fun _ kx_ => XS.iloadN X0.here hx rfl (hb hby d1_5) rfl kx_) ?_
    refine W.s1 (mkF m 8 #[.val (.int xb)] [(.int (64 : Int32)), (.int xb)]) (fun _ kx_ => XS.bipush X0.here hx rfl (hb hby d1_6) kx_) ?_
    refine W.icmp X0 hx (hb hby d1_8) (pc' := 24) (pc'' := 11) (by decide) (by decide) rfl (fun (c8 : (64 : Int32) < xb) => ?_) (fun (c8 : ¬ (64 : Int32) < xb) => ?_)
    · refine W.s1 (mkF m 25 #[.val (.int xb)] [(.int (0 : Int32))]) (fun _ kx_ => XS.iconst X0.here hx rfl (hb hby d1_24) kx_) ?_
      exact W.retZ X0 hx hlk (t := .boolean) (z' := (0 : Int32)) Bd.returns (by simp) (hb hby d1_25) rfl (by show Q1 Z xb aw h0 n0 _ s₁.heap _; rw [e0]; refine ⟨_, rfl, N0, rfl, Or.inr ⟨rfl, ?_⟩⟩; simp only [Int32.lt_iff_toInt_lt, own_l1, own_l2, own_l4, own_l8, own_l12, own_l16, own_l20, own_l24, own_l28, own_l32, own_l40, own_l48, own_l56, own_l64] at c2 c8; unfold own_set; omega) (by decide) (by decide)
    · refine W.gets X0 hx hZ hown (host := "") (Or.inl (hw _ (List.mem_of_getElem? (i := 8) rfl))) Via.refl e0 S0 (hb hby d1_11) (pc' := 14) rfl (fun T101 X101 e101 => ?_)
      refine W.s1 (mkF m 15 #[.val (.int xb)] [(.int xb), (.ref aw)]) (fun _ kx_ => XS.iloadN X101.here hx rfl (hb hby d1_14) rfl kx_) ?_
      have e1 : (1 : Int32).toInt = 1 := rfl
      have e64 : (64 : Int32).toInt = 64 := rfl
      have c2' := c2; have c8' := c8; rw [Int32.lt_iff_toInt_lt] at c2' c8'
      obtain ⟨k, hk, hkl, hk1⟩ : ∃ k : Nat, xb.toInt = k ∧ k < 65 ∧ 1 ≤ k := ⟨xb.toInt.toNat, by omega, by omega, by omega⟩
      have tb : (own_w k).toInt = (k : Int) ↔ (k = 1 ∨ k = 2 ∨ k = 4 ∨ k = 8 ∨ k = 12 ∨ k = 16 ∨ k = 20 ∨ k = 24 ∨ k = 28 ∨ k = 32 ∨ k = 40 ∨ k = 48 ∨ k = 56 ∨ k = 64) := own_tab ⟨k, hkl⟩ hk1
      refine W.ldi X101 hx hZ e101 A0 k hk hkl (hb hby d1_15) (pc' := 16) rfl ?_
      refine W.s1 (mkF m 17 #[.val (.int xb)] [(.int xb), (.int (own_w k))]) (fun _ kx_ => XS.iloadN X101.here hx rfl (hb hby d1_16) rfl kx_) ?_
      refine W.icmp X101 hx (hb hby d1_17) (pc' := 24) (pc'' := 20) (by decide) (by decide) rfl (fun (c17 : ¬ (own_w k) = xb) => ?_) (fun (c17 : (own_w k) = xb) => ?_)
      · refine W.s1 (mkF m 25 #[.val (.int xb)] [(.int (0 : Int32))]) (fun _ kx_ => XS.iconst X101.here hx rfl (hb hby d1_24) kx_) ?_
        exact W.retZ X101 hx hlk (t := .boolean) (z' := (0 : Int32)) Bd.returns (by simp) (hb hby d1_25) rfl (by show Q1 Z xb aw h0 n0 _ T101.heap _; rw [e101]; exact ⟨_, rfl, N0, rfl, Or.inr ⟨rfl, fun q => c17 (Int32.toInt_inj.mp (by rw [hk]; exact tb.mpr (by unfold own_set at q; omega)))⟩⟩) (by decide) (by decide)
      · refine W.s1 (mkF m 21 #[.val (.int xb)] [(.int (1 : Int32))]) (fun _ kx_ => XS.iconst X101.here hx rfl (hb hby d1_20) kx_) ?_
        refine W.s1 (mkF m 25 #[.val (.int xb)] [(.int (1 : Int32))]) (fun _ kx_ => XS.goto X101.here hx rfl (pc0 := 21) (pc' := 25) rfl (hb hby d1_21) (by decide) (by decide) kx_) ?_
        exact W.retZ X101 hx hlk (t := .boolean) (z' := (1 : Int32)) Bd.returns (by simp) (hb hby d1_25) rfl (by show Q1 Z xb aw h0 n0 _ T101.heap _; rw [e101]; exact ⟨_, rfl, N0, rfl, Or.inl ⟨rfl, by rw [c17, hk] at tb; have := tb.mp rfl; unfold own_set; omega⟩⟩) (by decide) (by decide)
theorem pn_1 : plainName "com/example/bitpress/bitpress/FixedWidthStreamIsWidthPinLaw" = true := by first | (simp [plainName, overriddenIn]; done) | decide +kernel
theorem ef_2 (m : MethodId) (x0 : Int32) : entryFrame m #[(.int x0)] 1 = mkF m 0 #[.val (.int x0)] [] := by first | (simp [entryFrame, mkF, argsToLocals, Value.category]; done) | rfl
theorem d2_0 : decode method_3_code 0 = .ok (.iload_n 0, 1) := by decide +kernel
theorem d2_1 : decode method_3_code 1 = .ok (.iconst 1, 1) := by decide +kernel
theorem d2_2 : decode method_3_code 2 = .ok (.if_icmp .eq 79, 3) := by decide +kernel
theorem d2_81 : decode method_3_code 81 = .ok (.iconst 1, 1) := by decide +kernel
theorem d2_82 : decode method_3_code 82 = .ok (.goto 4, 3) := by decide +kernel
theorem d2_86 : decode method_3_code 86 = .ok (.ireturn, 1) := by decide +kernel
theorem d2_5 : decode method_3_code 5 = .ok (.iload_n 0, 1) := by decide +kernel
theorem d2_6 : decode method_3_code 6 = .ok (.iconst 2, 1) := by decide +kernel
theorem d2_7 : decode method_3_code 7 = .ok (.if_icmp .eq 74, 3) := by decide +kernel
theorem d2_10 : decode method_3_code 10 = .ok (.iload_n 0, 1) := by decide +kernel
theorem d2_11 : decode method_3_code 11 = .ok (.iconst 4, 1) := by decide +kernel
theorem d2_12 : decode method_3_code 12 = .ok (.if_icmp .eq 69, 3) := by decide +kernel
theorem d2_15 : decode method_3_code 15 = .ok (.iload_n 0, 1) := by decide +kernel
theorem d2_16 : decode method_3_code 16 = .ok (.bipush 8, 2) := by decide +kernel
theorem d2_18 : decode method_3_code 18 = .ok (.if_icmp .eq 63, 3) := by decide +kernel
theorem d2_21 : decode method_3_code 21 = .ok (.iload_n 0, 1) := by decide +kernel
theorem d2_22 : decode method_3_code 22 = .ok (.bipush 12, 2) := by decide +kernel
theorem d2_24 : decode method_3_code 24 = .ok (.if_icmp .eq 57, 3) := by decide +kernel
theorem d2_27 : decode method_3_code 27 = .ok (.iload_n 0, 1) := by decide +kernel
theorem d2_28 : decode method_3_code 28 = .ok (.bipush 16, 2) := by decide +kernel
theorem d2_30 : decode method_3_code 30 = .ok (.if_icmp .eq 51, 3) := by decide +kernel
theorem d2_33 : decode method_3_code 33 = .ok (.iload_n 0, 1) := by decide +kernel
theorem d2_34 : decode method_3_code 34 = .ok (.bipush 20, 2) := by decide +kernel
theorem d2_36 : decode method_3_code 36 = .ok (.if_icmp .eq 45, 3) := by decide +kernel
theorem d2_39 : decode method_3_code 39 = .ok (.iload_n 0, 1) := by decide +kernel
theorem d2_40 : decode method_3_code 40 = .ok (.bipush 24, 2) := by decide +kernel
theorem d2_42 : decode method_3_code 42 = .ok (.if_icmp .eq 39, 3) := by decide +kernel
theorem d2_45 : decode method_3_code 45 = .ok (.iload_n 0, 1) := by decide +kernel
theorem d2_46 : decode method_3_code 46 = .ok (.bipush 28, 2) := by decide +kernel
theorem d2_48 : decode method_3_code 48 = .ok (.if_icmp .eq 33, 3) := by decide +kernel
theorem d2_51 : decode method_3_code 51 = .ok (.iload_n 0, 1) := by decide +kernel
theorem d2_52 : decode method_3_code 52 = .ok (.bipush 32, 2) := by decide +kernel
theorem d2_54 : decode method_3_code 54 = .ok (.if_icmp .eq 27, 3) := by decide +kernel
theorem d2_57 : decode method_3_code 57 = .ok (.iload_n 0, 1) := by decide +kernel
theorem d2_58 : decode method_3_code 58 = .ok (.bipush 40, 2) := by decide +kernel
theorem d2_60 : decode method_3_code 60 = .ok (.if_icmp .eq 21, 3) := by decide +kernel
theorem d2_63 : decode method_3_code 63 = .ok (.iload_n 0, 1) := by decide +kernel
theorem d2_64 : decode method_3_code 64 = .ok (.bipush 48, 2) := by decide +kernel
theorem d2_66 : decode method_3_code 66 = .ok (.if_icmp .eq 15, 3) := by decide +kernel
theorem d2_69 : decode method_3_code 69 = .ok (.iload_n 0, 1) := by decide +kernel
theorem d2_70 : decode method_3_code 70 = .ok (.bipush 56, 2) := by decide +kernel
theorem d2_72 : decode method_3_code 72 = .ok (.if_icmp .eq 9, 3) := by decide +kernel
theorem d2_75 : decode method_3_code 75 = .ok (.iload_n 0, 1) := by decide +kernel
theorem d2_76 : decode method_3_code 76 = .ok (.bipush 64, 2) := by decide +kernel
theorem d2_78 : decode method_3_code 78 = .ok (.if_icmp .ne 7, 3) := by decide +kernel
theorem d2_85 : decode method_3_code 85 = .ok (.iconst 0, 1) := by decide +kernel
def Q2 (Z : State) (xb : Int32) (h0 : Heap) (n0 : Nat) (v : Option Value) (h : Heap) (L : List Loc) : Prop := ∃ r : Int32, v = some (.int r) ∧ Fr n0 L ∧ h = h0 ∧ ((r = 1 ∧ own_set xb.toInt) ∨ (r = 0 ∧ ¬ own_set xb.toInt))
set_option maxRecDepth 65536 in
set_option maxHeartbeats 40000000 in
theorem rm2 (l : Launch) (Z : State) (a0 : Array Value) (hw : ∀ d ∈ tables_1, d.before a0 Z = true) (ws : List Jvm.Cond) (xb : Int32) (h0 : Heap) (n0 : Nat) (Z0 : n0 ≤ h0.size) :
    MetFree l (⟨"com/example/bitpress/bitpress/FixedWidthStreamIsWidthPinLaw", "expected", "(I)Z"⟩ : MethodName) (head1 (Jvm.Cond.code (⟨"com/example/bitpress/bitpress/FixedWidthStreamIsWidthPinLaw", "expected", "(I)Z"⟩ : MethodName) method_3_code 1 (some .boolean) :: ws) ({ frames := 0, cells := 0, slots := 0, locals := 0 } : Room)) (fun a U => a = #[(.int xb)] ∧ Z.Warmed39 U.vm ∧ U.heap = h0) (fun _ _ _ _ _ => True) (fun _ U o U' => ∃ v L, o = .returned v ∧ Q2 Z xb h0 n0 v U'.heap L ∧ FrameEnd U o U' L ({ frames := 0, cells := 0, slots := 0, locals := 0 } : Room).cells ({ frames := 0, cells := 0, slots := 0, locals := 0 } : Room).slots) := by
  refine MetFree.of_bodySF (plainFor_of_name pn_1) hisR ?_
  intro p e s m args below meth c s₁ Bd hml0 hP hK
  obtain ⟨rfl, hZ, hh⟩ := hP
  have hx := Bd.exec
  have hby := Bd.bytes
  have hml : c.maxLocals = 1 := hml0
  have hown : s.vm.findClass "com/example/bitpress/bitpress/FixedWidthStreamIsWidthPinLaw" = some m.cls := findClass_of_methodNamed Bd.named
  have hnm := (name_of_methodNamed Bd.named Bd.method).1
  have hlk : meth.locks = false := BodyLoose.notSynchronized Bd
  have X0 : Stand p l e ({ frames := 0, cells := 0, slots := 0, locals := 0 } : Room) s m #[(.int xb)] below meth c s₁ [] 0 0 := Stand.of_body Bd
  have e0 : s₁.heap = h0 := by rw [← hh, Bd.state]; rfl
  have N0 := Fr.nil n0
  show W.Gl p e below s (Q2 Z xb h0 n0) ({ frames := 0, cells := 0, slots := 0, locals := 0 } : Room).cells ({ frames := 0, cells := 0, slots := 0, locals := 0 } : Room).slots s₁ (entryFrame m #[(.int xb)] 1)
  refine W.cast (ef_2 m xb) ?_
  refine W.s1 (mkF m 1 #[.val (.int xb)] [(.int xb)]) (fun _ kx_ => XS.iloadN X0.here hx rfl (hb hby d2_0) rfl kx_) ?_
  refine W.s1 (mkF m 2 #[.val (.int xb)] [(.int (1 : Int32)), (.int xb)]) (fun _ kx_ => XS.iconst X0.here hx rfl (hb hby d2_1) kx_) ?_
  refine W.icmp X0 hx (hb hby d2_2) (pc' := 81) (pc'' := 5) (by decide) (by decide) rfl (fun (c2 : xb = (1 : Int32)) => ?_) (fun (c2 : ¬ xb = (1 : Int32)) => ?_)
  · refine W.s1 (mkF m 82 #[.val (.int xb)] [(.int (1 : Int32))]) (fun _ kx_ => XS.iconst X0.here hx rfl (hb hby d2_81) kx_) ?_
    refine W.s1 (mkF m 86 #[.val (.int xb)] [(.int (1 : Int32))]) (fun _ kx_ => XS.goto X0.here hx rfl (pc0 := 82) (pc' := 86) rfl (hb hby d2_82) (by decide) (by decide) kx_) ?_
    exact W.retZ X0 hx hlk (t := .boolean) (z' := (1 : Int32)) Bd.returns (by simp) (hb hby d2_86) rfl (by show Q2 Z xb h0 n0 _ s₁.heap _; rw [e0]; refine ⟨_, rfl, N0, rfl, Or.inl ⟨rfl, ?_⟩⟩; simp only [← Int32.toInt_inj, own_l1, own_l2, own_l4, own_l8, own_l12, own_l16, own_l20, own_l24, own_l28, own_l32, own_l40, own_l48, own_l56, own_l64] at c2; unfold own_set; omega) (by decide) (by decide)
  · refine W.s1 (mkF m 6 #[.val (.int xb)] [(.int xb)]) (fun _ kx_ => XS.iloadN X0.here hx rfl (hb hby d2_5) rfl kx_) ?_
    refine W.s1 (mkF m 7 #[.val (.int xb)] [(.int (2 : Int32)), (.int xb)]) (fun _ kx_ => XS.iconst X0.here hx rfl (hb hby d2_6) kx_) ?_
    refine W.icmp X0 hx (hb hby d2_7) (pc' := 81) (pc'' := 10) (by decide) (by decide) rfl (fun (c7 : xb = (2 : Int32)) => ?_) (fun (c7 : ¬ xb = (2 : Int32)) => ?_)
    · refine W.s1 (mkF m 82 #[.val (.int xb)] [(.int (1 : Int32))]) (fun _ kx_ => XS.iconst X0.here hx rfl (hb hby d2_81) kx_) ?_
      refine W.s1 (mkF m 86 #[.val (.int xb)] [(.int (1 : Int32))]) (fun _ kx_ => XS.goto X0.here hx rfl (pc0 := 82) (pc' := 86) rfl (hb hby d2_82) (by decide) (by decide) kx_) ?_
      exact W.retZ X0 hx hlk (t := .boolean) (z' := (1 : Int32)) Bd.returns (by simp) (hb hby d2_86) rfl (by show Q2 Z xb h0 n0 _ s₁.heap _; rw [e0]; refine ⟨_, rfl, N0, rfl, Or.inl ⟨rfl, ?_⟩⟩; simp only [← Int32.toInt_inj, own_l1, own_l2, own_l4, own_l8, own_l12, own_l16, own_l20, own_l24, own_l28, own_l32, own_l40, own_l48, own_l56, own_l64] at c2 c7; unfold own_set; omega) (by decide) (by decide)
    · refine W.s1 (mkF m 11 #[.val (.int xb)] [(.int xb)]) (fun _ kx_ => XS.iloadN X0.here hx rfl (hb hby d2_10) rfl kx_) ?_
      refine W.s1 (mkF m 12 #[.val (.int xb)] [(.int (4 : Int32)), (.int xb)]) (fun _ kx_ => XS.iconst X0.here hx rfl (hb hby d2_11) kx_) ?_
      refine W.icmp X0 hx (hb hby d2_12) (pc' := 81) (pc'' := 15) (by decide) (by decide) rfl (fun (c12 : xb = (4 : Int32)) => ?_) (fun (c12 : ¬ xb = (4 : Int32)) => ?_)
      · refine W.s1 (mkF m 82 #[.val (.int xb)] [(.int (1 : Int32))]) (fun _ kx_ => XS.iconst X0.here hx rfl (hb hby d2_81) kx_) ?_
        refine W.s1 (mkF m 86 #[.val (.int xb)] [(.int (1 : Int32))]) (fun _ kx_ => XS.goto X0.here hx rfl (pc0 := 82) (pc' := 86) rfl (hb hby d2_82) (by decide) (by decide) kx_) ?_
        exact W.retZ X0 hx hlk (t := .boolean) (z' := (1 : Int32)) Bd.returns (by simp) (hb hby d2_86) rfl (by show Q2 Z xb h0 n0 _ s₁.heap _; rw [e0]; refine ⟨_, rfl, N0, rfl, Or.inl ⟨rfl, ?_⟩⟩; simp only [← Int32.toInt_inj, own_l1, own_l2, own_l4, own_l8, own_l12, own_l16, own_l20, own_l24, own_l28, own_l32, own_l40, own_l48, own_l56, own_l64] at c2 c7 c12; unfold own_set; omega) (by decide) (by decide)
      · refine W.s1 (mkF m 16 #[.val (.int xb)] [(.int xb)]) (fun _ kx_ => XS.iloadN X0.here hx rfl (hb hby d2_15) rfl kx_) ?_
        refine W.s1 (mkF m 18 #[.val (.int xb)] [(.int (8 : Int32)), (.int xb)]) (fun _ kx_ => XS.bipush X0.here hx rfl (hb hby d2_16) kx_) ?_
        refine W.icmp X0 hx (hb hby d2_18) (pc' := 81) (pc'' := 21) (by decide) (by decide) rfl (fun (c18 : xb = (8 : Int32)) => ?_) (fun (c18 : ¬ xb = (8 : Int32)) => ?_)
        · refine W.s1 (mkF m 82 #[.val (.int xb)] [(.int (1 : Int32))]) (fun _ kx_ => XS.iconst X0.here hx rfl (hb hby d2_81) kx_) ?_
          refine W.s1 (mkF m 86 #[.val (.int xb)] [(.int (1 : Int32))]) (fun _ kx_ => XS.goto X0.here hx rfl (pc0 := 82) (pc' := 86) rfl (hb hby d2_82) (by decide) (by decide) kx_) ?_
          exact W.retZ X0 hx hlk (t := .boolean) (z' := (1 : Int32)) Bd.returns (by simp) (hb hby d2_86) rfl (by show Q2 Z xb h0 n0 _ s₁.heap _; rw [e0]; refine ⟨_, rfl, N0, rfl, Or.inl ⟨rfl, ?_⟩⟩; simp only [← Int32.toInt_inj, own_l1, own_l2, own_l4, own_l8, own_l12, own_l16, own_l20, own_l24, own_l28, own_l32, own_l40, own_l48, own_l56, own_l64] at c2 c7 c12 c18; unfold own_set; omega) (by decide) (by decide)
        · refine W.s1 (mkF m 22 #[.val (.int xb)] [(.int xb)]) (fun _ kx_ => XS.iloadN X0.here hx rfl (hb hby d2_21) rfl kx_) ?_
          refine W.s1 (mkF m 24 #[.val (.int xb)] [(.int (12 : Int32)), (.int xb)]) (fun _ kx_ => XS.bipush X0.here hx rfl (hb hby d2_22) kx_) ?_
          refine W.icmp X0 hx (hb hby d2_24) (pc' := 81) (pc'' := 27) (by decide) (by decide) rfl (fun (c24 : xb = (12 : Int32)) => ?_) (fun (c24 : ¬ xb = (12 : Int32)) => ?_)
          · refine W.s1 (mkF m 82 #[.val (.int xb)] [(.int (1 : Int32))]) (fun _ kx_ => XS.iconst X0.here hx rfl (hb hby d2_81) kx_) ?_
            refine W.s1 (mkF m 86 #[.val (.int xb)] [(.int (1 : Int32))]) (fun _ kx_ => XS.goto X0.here hx rfl (pc0 := 82) (pc' := 86) rfl (hb hby d2_82) (by decide) (by decide) kx_) ?_
            exact W.retZ X0 hx hlk (t := .boolean) (z' := (1 : Int32)) Bd.returns (by simp) (hb hby d2_86) rfl (by show Q2 Z xb h0 n0 _ s₁.heap _; rw [e0]; refine ⟨_, rfl, N0, rfl, Or.inl ⟨rfl, ?_⟩⟩; simp only [← Int32.toInt_inj, own_l1, own_l2, own_l4, own_l8, own_l12, own_l16, own_l20, own_l24, own_l28, own_l32, own_l40, own_l48, own_l56, own_l64] at c2 c7 c12 c18 c24; unfold own_set; omega) (by decide) (by decide)
          · refine W.s1 (mkF m 28 #[.val (.int xb)] [(.int xb)]) (fun _ kx_ => XS.iloadN X0.here hx rfl (hb hby d2_27) rfl kx_) ?_
            refine W.s1 (mkF m 30 #[.val (.int xb)] [(.int (16 : Int32)), (.int xb)]) (fun _ kx_ => XS.bipush X0.here hx rfl (hb hby d2_28) kx_) ?_
            refine W.icmp X0 hx (hb hby d2_30) (pc' := 81) (pc'' := 33) (by decide) (by decide) rfl (fun (c30 : xb = (16 : Int32)) => ?_) (fun (c30 : ¬ xb = (16 : Int32)) => ?_)
            · refine W.s1 (mkF m 82 #[.val (.int xb)] [(.int (1 : Int32))]) (fun _ kx_ => XS.iconst X0.here hx rfl (hb hby d2_81) kx_) ?_
              refine W.s1 (mkF m 86 #[.val (.int xb)] [(.int (1 : Int32))]) (fun _ kx_ => XS.goto X0.here hx rfl (pc0 := 82) (pc' := 86) rfl (hb hby d2_82) (by decide) (by decide) kx_) ?_
              exact W.retZ X0 hx hlk (t := .boolean) (z' := (1 : Int32)) Bd.returns (by simp) (hb hby d2_86) rfl (by show Q2 Z xb h0 n0 _ s₁.heap _; rw [e0]; refine ⟨_, rfl, N0, rfl, Or.inl ⟨rfl, ?_⟩⟩; simp only [← Int32.toInt_inj, own_l1, own_l2, own_l4, own_l8, own_l12, own_l16, own_l20, own_l24, own_l28, own_l32, own_l40, own_l48, own_l56, own_l64] at c2 c7 c12 c18 c24 c30; unfold own_set; omega) (by decide) (by decide)
            · refine W.s1 (mkF m 34 #[.val (.int xb)] [(.int xb)]) (fun _ kx_ => XS.iloadN X0.here hx rfl (hb hby d2_33) rfl kx_) ?_
              refine W.s1 (mkF m 36 #[.val (.int xb)] [(.int (20 : Int32)), (.int xb)]) (fun _ kx_ => XS.bipush X0.here hx rfl (hb hby d2_34) kx_) ?_
              refine W.icmp X0 hx (hb hby d2_36) (pc' := 81) (pc'' := 39) (by decide) (by decide) rfl (fun (c36 : xb = (20 : Int32)) => ?_) (fun (c36 : ¬ xb = (20 : Int32)) => ?_)
              · refine W.s1 (mkF m 82 #[.val (.int xb)] [(.int (1 : Int32))]) (fun _ kx_ => XS.iconst X0.here hx rfl (hb hby d2_81) kx_) ?_
                refine W.s1 (mkF m 86 #[.val (.int xb)] [(.int (1 : Int32))]) (fun _ kx_ => XS.goto X0.here hx rfl (pc0 := 82) (pc' := 86) rfl (hb hby d2_82) (by decide) (by decide) kx_) ?_
                exact W.retZ X0 hx hlk (t := .boolean) (z' := (1 : Int32)) Bd.returns (by simp) (hb hby d2_86) rfl (by show Q2 Z xb h0 n0 _ s₁.heap _; rw [e0]; refine ⟨_, rfl, N0, rfl, Or.inl ⟨rfl, ?_⟩⟩; simp only [← Int32.toInt_inj, own_l1, own_l2, own_l4, own_l8, own_l12, own_l16, own_l20, own_l24, own_l28, own_l32, own_l40, own_l48, own_l56, own_l64] at c2 c7 c12 c18 c24 c30 c36; unfold own_set; omega) (by decide) (by decide)
              · refine W.s1 (mkF m 40 #[.val (.int xb)] [(.int xb)]) (fun _ kx_ => XS.iloadN X0.here hx rfl (hb hby d2_39) rfl kx_) ?_
                refine W.s1 (mkF m 42 #[.val (.int xb)] [(.int (24 : Int32)), (.int xb)]) (fun _ kx_ => XS.bipush X0.here hx rfl (hb hby d2_40) kx_) ?_
                refine W.icmp X0 hx (hb hby d2_42) (pc' := 81) (pc'' := 45) (by decide) (by decide) rfl (fun (c42 : xb = (24 : Int32)) => ?_) (fun (c42 : ¬ xb = (24 : Int32)) => ?_)
                · refine W.s1 (mkF m 82 #[.val (.int xb)] [(.int (1 : Int32))]) (fun _ kx_ => XS.iconst X0.here hx rfl (hb hby d2_81) kx_) ?_
                  refine W.s1 (mkF m 86 #[.val (.int xb)] [(.int (1 : Int32))]) (fun _ kx_ => XS.goto X0.here hx rfl (pc0 := 82) (pc' := 86) rfl (hb hby d2_82) (by decide) (by decide) kx_) ?_
                  exact W.retZ X0 hx hlk (t := .boolean) (z' := (1 : Int32)) Bd.returns (by simp) (hb hby d2_86) rfl (by show Q2 Z xb h0 n0 _ s₁.heap _; rw [e0]; refine ⟨_, rfl, N0, rfl, Or.inl ⟨rfl, ?_⟩⟩; simp only [← Int32.toInt_inj, own_l1, own_l2, own_l4, own_l8, own_l12, own_l16, own_l20, own_l24, own_l28, own_l32, own_l40, own_l48, own_l56, own_l64] at c2 c7 c12 c18 c24 c30 c36 c42; unfold own_set; omega) (by decide) (by decide)
                · refine W.s1 (mkF m 46 #[.val (.int xb)] [(.int xb)]) (fun _ kx_ => XS.iloadN X0.here hx rfl (hb hby d2_45) rfl kx_) ?_
                  refine W.s1 (mkF m 48 #[.val (.int xb)] [(.int (28 : Int32)), (.int xb)]) (fun _ kx_ => XS.bipush X0.here hx rfl (hb hby d2_46) kx_) ?_
                  refine W.icmp X0 hx (hb hby d2_48) (pc' := 81) (pc'' := 51) (by decide) (by decide) rfl (fun (c48 : xb = (28 : Int32)) => ?_) (fun (c48 : ¬ xb = (28 : Int32)) => ?_)
                  · refine W.s1 (mkF m 82 #[.val (.int xb)] [(.int (1 : Int32))]) (fun _ kx_ => XS.iconst X0.here hx rfl (hb hby d2_81) kx_) ?_
                    refine W.s1 (mkF m 86 #[.val (.int xb)] [(.int (1 : Int32))]) (fun _ kx_ => XS.goto X0.here hx rfl (pc0 := 82) (pc' := 86) rfl (hb hby d2_82) (by decide) (by decide) kx_) ?_
                    exact W.retZ X0 hx hlk (t := .boolean) (z' := (1 : Int32)) Bd.returns (by simp) (hb hby d2_86) rfl (by show Q2 Z xb h0 n0 _ s₁.heap _; rw [e0]; refine ⟨_, rfl, N0, rfl, Or.inl ⟨rfl, ?_⟩⟩; simp only [← Int32.toInt_inj, own_l1, own_l2, own_l4, own_l8, own_l12, own_l16, own_l20, own_l24, own_l28, own_l32, own_l40, own_l48, own_l56, own_l64] at c2 c7 c12 c18 c24 c30 c36 c42 c48; unfold own_set; omega) (by decide) (by decide)
                  · refine W.s1 (mkF m 52 #[.val (.int xb)] [(.int xb)]) (fun _ kx_ => XS.iloadN X0.here hx rfl (hb hby d2_51) rfl kx_) ?_
                    refine W.s1 (mkF m 54 #[.val (.int xb)] [(.int (32 : Int32)), (.int xb)]) (fun _ kx_ => XS.bipush X0.here hx rfl (hb hby d2_52) kx_) ?_
                    refine W.icmp X0 hx (hb hby d2_54) (pc' := 81) (pc'' := 57) (by decide) (by decide) rfl (fun (c54 : xb = (32 : Int32)) => ?_) (fun (c54 : ¬ xb = (32 : Int32)) => ?_)
                    · refine W.s1 (mkF m 82 #[.val (.int xb)] [(.int (1 : Int32))]) (fun _ kx_ => XS.iconst X0.here hx rfl (hb hby d2_81) kx_) ?_
                      refine W.s1 (mkF m 86 #[.val (.int xb)] [(.int (1 : Int32))]) (fun _ kx_ => XS.goto X0.here hx rfl (pc0 := 82) (pc' := 86) rfl (hb hby d2_82) (by decide) (by decide) kx_) ?_
                      exact W.retZ X0 hx hlk (t := .boolean) (z' := (1 : Int32)) Bd.returns (by simp) (hb hby d2_86) rfl (by show Q2 Z xb h0 n0 _ s₁.heap _; rw [e0]; refine ⟨_, rfl, N0, rfl, Or.inl ⟨rfl, ?_⟩⟩; simp only [← Int32.toInt_inj, own_l1, own_l2, own_l4, own_l8, own_l12, own_l16, own_l20, own_l24, own_l28, own_l32, own_l40, own_l48, own_l56, own_l64] at c2 c7 c12 c18 c24 c30 c36 c42 c48 c54; unfold own_set; omega) (by decide) (by decide)
                    · refine W.s1 (mkF m 58 #[.val (.int xb)] [(.int xb)]) (fun _ kx_ => XS.iloadN X0.here hx rfl (hb hby d2_57) rfl kx_) ?_
                      refine W.s1 (mkF m 60 #[.val (.int xb)] [(.int (40 : Int32)), (.int xb)]) (fun _ kx_ => XS.bipush X0.here hx rfl (hb hby d2_58) kx_) ?_
                      refine W.icmp X0 hx (hb hby d2_60) (pc' := 81) (pc'' := 63) (by decide) (by decide) rfl (fun (c60 : xb = (40 : Int32)) => ?_) (fun (c60 : ¬ xb = (40 : Int32)) => ?_)
                      · refine W.s1 (mkF m 82 #[.val (.int xb)] [(.int (1 : Int32))]) (fun _ kx_ => XS.iconst X0.here hx rfl (hb hby d2_81) kx_) ?_
                        refine W.s1 (mkF m 86 #[.val (.int xb)] [(.int (1 : Int32))]) (fun _ kx_ => XS.goto X0.here hx rfl (pc0 := 82) (pc' := 86) rfl (hb hby d2_82) (by decide) (by decide) kx_) ?_
                        exact W.retZ X0 hx hlk (t := .boolean) (z' := (1 : Int32)) Bd.returns (by simp) (hb hby d2_86) rfl (by show Q2 Z xb h0 n0 _ s₁.heap _; rw [e0]; refine ⟨_, rfl, N0, rfl, Or.inl ⟨rfl, ?_⟩⟩; simp only [← Int32.toInt_inj, own_l1, own_l2, own_l4, own_l8, own_l12, own_l16, own_l20, own_l24, own_l28, own_l32, own_l40, own_l48, own_l56, own_l64] at c2 c7 c12 c18 c24 c30 c36 c42 c48 c54 c60; unfold own_set; omega) (by decide) (by decide)
                      · refine W.s1 (mkF m 64 #[.val (.int xb)] [(.int xb)]) (fun _ kx_ => XS.iloadN X0.here hx rfl (hb hby d2_63) rfl kx_) ?_
                        refine W.s1 (mkF m 66 #[.val (.int xb)] [(.int (48 : Int32)), (.int xb)]) (fun _ kx_ => XS.bipush X0.here hx rfl (hb hby d2_64) kx_) ?_
                        refine W.icmp X0 hx (hb hby d2_66) (pc' := 81) (pc'' := 69) (by decide) (by decide) rfl (fun (c66 : xb = (48 : Int32)) => ?_) (fun (c66 : ¬ xb = (48 : Int32)) => ?_)
                        · refine W.s1 (mkF m 82 #[.val (.int xb)] [(.int (1 : Int32))]) (fun _ kx_ => XS.iconst X0.here hx rfl (hb hby d2_81) kx_) ?_
                          refine W.s1 (mkF m 86 #[.val (.int xb)] [(.int (1 : Int32))]) (fun _ kx_ => XS.goto X0.here hx rfl (pc0 := 82) (pc' := 86) rfl (hb hby d2_82) (by decide) (by decide) kx_) ?_
                          exact W.retZ X0 hx hlk (t := .boolean) (z' := (1 : Int32)) Bd.returns (by simp) (hb hby d2_86) rfl (by show Q2 Z xb h0 n0 _ s₁.heap _; rw [e0]; refine ⟨_, rfl, N0, rfl, Or.inl ⟨rfl, ?_⟩⟩; simp only [← Int32.toInt_inj, own_l1, own_l2, own_l4, own_l8, own_l12, own_l16, own_l20, own_l24, own_l28, own_l32, own_l40, own_l48, own_l56, own_l64] at c2 c7 c12 c18 c24 c30 c36 c42 c48 c54 c60 c66; unfold own_set; omega) (by decide) (by decide)
                        · refine W.s1 (mkF m 70 #[.val (.int xb)] [(.int xb)]) (fun _ kx_ => XS.iloadN X0.here hx rfl (hb hby d2_69) rfl kx_) ?_
                          refine W.s1 (mkF m 72 #[.val (.int xb)] [(.int (56 : Int32)), (.int xb)]) (fun _ kx_ => XS.bipush X0.here hx rfl (hb hby d2_70) kx_) ?_
                          refine W.icmp X0 hx (hb hby d2_72) (pc' := 81) (pc'' := 75) (by decide) (by decide) rfl (fun (c72 : xb = (56 : Int32)) => ?_) (fun (c72 : ¬ xb = (56 : Int32)) => ?_)
                          · refine W.s1 (mkF m 82 #[.val (.int xb)] [(.int (1 : Int32))]) (fun _ kx_ => XS.iconst X0.here hx rfl (hb hby d2_81) kx_) ?_
                            refine W.s1 (mkF m 86 #[.val (.int xb)] [(.int (1 : Int32))]) (fun _ kx_ => XS.goto X0.here hx rfl (pc0 := 82) (pc' := 86) rfl (hb hby d2_82) (by decide) (by decide) kx_) ?_
                            exact W.retZ X0 hx hlk (t := .boolean) (z' := (1 : Int32)) Bd.returns (by simp) (hb hby d2_86) rfl (by show Q2 Z xb h0 n0 _ s₁.heap _; rw [e0]; refine ⟨_, rfl, N0, rfl, Or.inl ⟨rfl, ?_⟩⟩; simp only [← Int32.toInt_inj, own_l1, own_l2, own_l4, own_l8, own_l12, own_l16, own_l20, own_l24, own_l28, own_l32, own_l40, own_l48, own_l56, own_l64] at c2 c7 c12 c18 c24 c30 c36 c42 c48 c54 c60 c66 c72; unfold own_set; omega) (by decide) (by decide)
                          · refine W.s1 (mkF m 76 #[.val (.int xb)] [(.int xb)]) (fun _ kx_ => XS.iloadN X0.here hx rfl (hb hby d2_75) rfl kx_) ?_
                            refine W.s1 (mkF m 78 #[.val (.int xb)] [(.int (64 : Int32)), (.int xb)]) (fun _ kx_ => XS.bipush X0.here hx rfl (hb hby d2_76) kx_) ?_
                            refine W.icmp X0 hx (hb hby d2_78) (pc' := 85) (pc'' := 81) (by decide) (by decide) rfl (fun (c78 : ¬ xb = (64 : Int32)) => ?_) (fun (c78 : xb = (64 : Int32)) => ?_)
                            · refine W.s1 (mkF m 86 #[.val (.int xb)] [(.int (0 : Int32))]) (fun _ kx_ => XS.iconst X0.here hx rfl (hb hby d2_85) kx_) ?_
                              exact W.retZ X0 hx hlk (t := .boolean) (z' := (0 : Int32)) Bd.returns (by simp) (hb hby d2_86) rfl (by show Q2 Z xb h0 n0 _ s₁.heap _; rw [e0]; refine ⟨_, rfl, N0, rfl, Or.inr ⟨rfl, ?_⟩⟩; simp only [← Int32.toInt_inj, own_l1, own_l2, own_l4, own_l8, own_l12, own_l16, own_l20, own_l24, own_l28, own_l32, own_l40, own_l48, own_l56, own_l64] at c2 c7 c12 c18 c24 c30 c36 c42 c48 c54 c60 c66 c72 c78; unfold own_set; omega) (by decide) (by decide)
                            · refine W.s1 (mkF m 82 #[.val (.int xb)] [(.int (1 : Int32))]) (fun _ kx_ => XS.iconst X0.here hx rfl (hb hby d2_81) kx_) ?_
                              refine W.s1 (mkF m 86 #[.val (.int xb)] [(.int (1 : Int32))]) (fun _ kx_ => XS.goto X0.here hx rfl (pc0 := 82) (pc' := 86) rfl (hb hby d2_82) (by decide) (by decide) kx_) ?_
                              exact W.retZ X0 hx hlk (t := .boolean) (z' := (1 : Int32)) Bd.returns (by simp) (hb hby d2_86) rfl (by show Q2 Z xb h0 n0 _ s₁.heap _; rw [e0]; refine ⟨_, rfl, N0, rfl, Or.inl ⟨rfl, ?_⟩⟩; simp only [← Int32.toInt_inj, own_l1, own_l2, own_l4, own_l8, own_l12, own_l16, own_l20, own_l24, own_l28, own_l32, own_l40, own_l48, own_l56, own_l64] at c2 c7 c12 c18 c24 c30 c36 c42 c48 c54 c60 c66 c72 c78; unfold own_set; omega) (by decide) (by decide)
theorem ef_0 (m : MethodId) (x0 : Int32) (x1 : Int32) : entryFrame m #[(.int x0), (.int x1)] maxLocals = mkF m 0 #[.val (.int x0), .val (.int x1), .unset] [] := by first | (simp [entryFrame, mkF, argsToLocals, Value.category, maxLocals]; done) | rfl
theorem pd_0 : parseMethodDescriptor "(I)Z" = some ⟨[.int], some .boolean⟩ := by decide +kernel
def Q0 (Z : State) (x0 : Int32) (xm : Int32) (aw : Addr) (h0 : Heap) (n0 : Nat) (v : Option Value) (h : Heap) (L : List Loc) : Prop := v = some (.int 1) ∧ Fr n0 L
set_option maxRecDepth 65536 in
set_option maxHeartbeats 40000000 in
theorem rm0 (l : Launch) (Z : State) (a0 : Array Value) (hw : ∀ d ∈ tables_1, d.before a0 Z = true) (ws : List Jvm.Cond) (x0 : Int32) (xm : Int32) (aw : Addr) (h0 : Heap) (n0 : Nat) (Z0 : n0 ≤ h0.size) (S0 : Sta Z h0 "com/example/bitpress/bitpress/FixedWidthStream" "WIDTH_FOR_BITS" "[I" (.ref aw)) (A0 : W.AI Z h0 aw .int 65 own_w) :
    MetFree l x (head1 (Jvm.Cond.code x code maxLocals ret :: ws) room_1) (fun a U => a = #[(.int x0), (.int xm)] ∧ Z.Warmed39 U.vm ∧ U.heap = h0) (fun _ _ _ _ _ => True) (fun _ U o U' => ∃ v L, o = .returned v ∧ Q0 Z x0 xm aw h0 n0 v U'.heap L ∧ FrameEnd U o U' L 0 0) := by
  refine MetFree.of_bodySF (plainFor_of_name pn_1) hisR ?_
  intro p e s m args below meth c s₁ Bd hml0 hP hK
  obtain ⟨rfl, hZ, hh⟩ := hP
  have hx := Bd.exec
  have hby := Bd.bytes
  have hml : c.maxLocals = 3 := hml0
  have hown : s.vm.findClass "com/example/bitpress/bitpress/FixedWidthStreamIsWidthPinLaw" = some m.cls := findClass_of_methodNamed Bd.named
  have hnm := (name_of_methodNamed Bd.named Bd.method).1
  have hlk : meth.locks = false := BodyLoose.notSynchronized Bd
  have X0 : Stand p l e room_1 s m #[(.int x0), (.int xm)] below meth c s₁ [] 0 0 := Stand.of_body Bd
  have e0 : s₁.heap = h0 := by rw [← hh, Bd.state]; rfl
  have N0 := Fr.nil n0
  show W.Gl p e below s (Q0 Z x0 xm aw h0 n0) 0 0 s₁ (entryFrame m #[(.int x0), (.int xm)] maxLocals)
  refine W.cast (ef_0 m x0 xm) ?_
  refine W.s1 (mkF m 1 #[.val (.int x0), .val (.int xm), .unset] [(.int xm)]) (fun _ kx_ => XS.iloadN X0.here hx rfl (hb hby at_0) rfl kx_) ?_
  refine W.s1 (mkF m 2 #[.val (.int x0), .val (.int xm), .unset] [(.int (1 : Int32)), (.int xm)]) (fun _ kx_ => XS.iconst X0.here hx rfl (hb hby at_1) kx_) ?_
  refine W.s1 (mkF m 3 #[.val (.int x0), .val (.int xm), .unset] [(.int (xm &&& (1 : Int32)))]) (fun _ kx_ => XS.iand X0.here hx rfl (hb hby at_2) rfl kx_) ?_
  refine W.ifc X0 hx (hb hby at_3) (pc' := 11) (pc'' := 6) (by decide) (by decide) rfl (fun (c3 : ¬ (xm &&& (1 : Int32)) = (0 : Int32)) => ?_) (fun (c3 : (xm &&& (1 : Int32)) = (0 : Int32)) => ?_)
  · refine W.s1 (mkF m 12 #[.val (.int x0), .val (.int xm), .unset] [(.int x0)]) (fun _ kx_ => XS.iloadN X0.here hx rfl (hb hby at_11) rfl kx_) ?_
    refine W.s1 (mkF m 14 #[.val (.int x0), .val (.int xm), .unset] [(.int (127 : Int32)), (.int x0)]) (fun _ kx_ => XS.bipush X0.here hx rfl (hb hby at_12) kx_) ?_
    refine W.s1 (mkF m 15 #[.val (.int x0), .val (.int xm), .unset] [(.int (x0 &&& (127 : Int32)))]) (fun _ kx_ => XS.iand X0.here hx rfl (hb hby at_14) rfl kx_) ?_
    refine W.s1 (mkF m 17 #[.val (.int x0), .val (.int xm), .unset] [(.int (31 : Int32)), (.int (x0 &&& (127 : Int32)))]) (fun _ kx_ => XS.bipush X0.here hx rfl (hb hby at_15) kx_) ?_
    refine W.s1 (mkF m 18 #[.val (.int x0), .val (.int xm), .unset] [(.int ((x0 &&& (127 : Int32)) - (31 : Int32)))]) (fun _ kx_ => XS.isub X0.here hx rfl (hb hby at_17) rfl kx_) ?_
    refine W.s1 (mkF m 19 #[.val (.int x0), .val (.int xm), .val (.int ((x0 &&& (127 : Int32)) - (31 : Int32)))] []) (fun _ kx_ => XS.istoreN X0.here hx rfl (hb hby at_18) rfl (l' := #[.val (.int x0), .val (.int xm), .val (.int ((x0 &&& (127 : Int32)) - (31 : Int32)))]) rfl kx_) ?_
    refine W.s1 (mkF m 20 #[.val (.int x0), .val (.int xm), .val (.int ((x0 &&& (127 : Int32)) - (31 : Int32)))] [(.int ((x0 &&& (127 : Int32)) - (31 : Int32)))]) (fun _ kx_ => XS.iloadN X0.here hx rfl (hb hby at_19) rfl kx_) ?_
    obtain ⟨_, _, ⟨T101, L101, k101, n101⟩, -, X101, ⟨Lc101, hQ101, l101, y101, z101⟩, st101⟩ := Jvm.LawKit.callS X0 hx (y := (⟨"com/example/bitpress/bitpress/FixedWidthStream", "isWidth", "(I)Z"⟩ : MethodName)) hown (mvT hZ (hw _ (List.mem_of_getElem? (i := 0) rfl))) (mvT hZ (hw _ (List.mem_of_getElem? (i := 1) rfl))) (mvT hZ (hw _ (List.mem_of_getElem? (i := 2) rfl))) (mvT hZ (hw _ (List.mem_of_getElem? (i := 3) rfl))) (by decide) (backOf (W := 0) (rm1 l Z a0 hw [] ((x0 &&& (127 : Int32)) - (31 : Int32)) aw h0 n0 Z0 S0 A0) hZ (hw _ (List.mem_of_getElem? (i := 3) rfl)) (hw _ (List.mem_of_getElem? (i := 2) rfl)) (by decide) (by decide)) (g := (mkF m 20 #[.val (.int x0), .val (.int xm), .val (.int ((x0 &&& (127 : Int32)) - (31 : Int32)))] [(.int ((x0 &&& (127 : Int32)) - (31 : Int32)))])) rfl (by rw [hml]; rfl) (argsL := [(.int ((x0 &&& (127 : Int32)) - (31 : Int32)))]) (rest := []) (lenOf pd_0 rfl) rfl (by show 2 * 0 + _ ≤ _; exact Nat.le_of_eq rfl) (hb hby at_20) (fun _ _ => ⟨rfl, e0, (by decide : 0 + 0 ≤ _), (by decide : 0 + 0 ≤ _)⟩)
    dsimp only [Pt.U, Pt.locs, Pt.cells, Pt.slots] at X101 l101 y101 z101 st101 hQ101
    subst l101 y101 z101
    obtain ⟨ra, rfl, Nq101, eq101, hra⟩ := hQ101
    have N101 := Fr.app N0 Nq101
    refine W.s2 (mkF m 23 #[.val (.int x0), .val (.int xm), .val (.int ((x0 &&& (127 : Int32)) - (31 : Int32)))] [(.int ra)]) st101 ?_
    refine W.s1 (mkF m 24 #[.val (.int x0), .val (.int xm), .val (.int ((x0 &&& (127 : Int32)) - (31 : Int32)))] [(.int ((x0 &&& (127 : Int32)) - (31 : Int32))), (.int ra)]) (fun _ kx_ => XS.iloadN X101.here hx rfl (hb hby at_23) rfl kx_) ?_
    obtain ⟨_, _, ⟨T102, L102, k102, n102⟩, -, X102, ⟨Lc102, hQ102, l102, y102, z102⟩, st102⟩ := Jvm.LawKit.callS X101 hx (y := (⟨"com/example/bitpress/bitpress/FixedWidthStreamIsWidthPinLaw", "expected", "(I)Z"⟩ : MethodName)) hown (mvT hZ (hw _ (List.mem_of_getElem? (i := 4) rfl))) (mvT hZ (hw _ (List.mem_of_getElem? (i := 5) rfl))) (mvT hZ (hw _ (List.mem_of_getElem? (i := 6) rfl))) (mvT hZ (hw _ (List.mem_of_getElem? (i := 7) rfl))) (by decide) (backOf (W := 1) (rm2 l Z a0 hw [] ((x0 &&& (127 : Int32)) - (31 : Int32)) h0 n0 Z0 ) hZ (hw _ (List.mem_of_getElem? (i := 7) rfl)) (hw _ (List.mem_of_getElem? (i := 6) rfl)) (by decide) (by decide)) (g := (mkF m 24 #[.val (.int x0), .val (.int xm), .val (.int ((x0 &&& (127 : Int32)) - (31 : Int32)))] [(.int ((x0 &&& (127 : Int32)) - (31 : Int32))), (.int ra)])) rfl (by rw [hml]; rfl) (argsL := [(.int ((x0 &&& (127 : Int32)) - (31 : Int32)))]) (rest := [(.int ra)]) (lenOf pd_0 rfl) rfl (by show 2 * 0 + _ ≤ _; exact Nat.le_of_eq rfl) (hb hby at_24) (fun _ _ => ⟨rfl, eq101, (by decide : 0 + 0 ≤ _), (by decide : 0 + 0 ≤ _)⟩)
    dsimp only [Pt.U, Pt.locs, Pt.cells, Pt.slots] at X102 l102 y102 z102 st102 hQ102
    subst l102 y102 z102
    obtain ⟨rb, rfl, Nq102, eq102, hrb⟩ := hQ102
    have N102 := Fr.app N101 Nq102
    have hq : ra = rb := by rcases hra with ⟨rfl, a⟩ | ⟨rfl, a⟩ <;> rcases hrb with ⟨rfl, b⟩ | ⟨rfl, b⟩ <;> first | rfl | exact absurd a b | exact absurd b a
    refine W.s2 (mkF m 27 #[.val (.int x0), .val (.int xm), .val (.int ((x0 &&& (127 : Int32)) - (31 : Int32)))] [(.int rb), (.int ra)]) st102 ?_
    refine W.icmp X102 hx (hb hby at_27) (pc' := 34) (pc'' := 30) (by decide) (by decide) rfl (fun (c27 : ¬ ra = rb) => ?_) (fun (c27 : ra = rb) => ?_)
    · exact absurd hq c27
    · refine W.s1 (mkF m 31 #[.val (.int x0), .val (.int xm), .val (.int ((x0 &&& (127 : Int32)) - (31 : Int32)))] [(.int (1 : Int32))]) (fun _ kx_ => XS.iconst X102.here hx rfl (hb hby at_30) kx_) ?_
      refine W.s1 (mkF m 35 #[.val (.int x0), .val (.int xm), .val (.int ((x0 &&& (127 : Int32)) - (31 : Int32)))] [(.int (1 : Int32))]) (fun _ kx_ => XS.goto X102.here hx rfl (pc0 := 31) (pc' := 35) rfl (hb hby at_31) (by decide) (by decide) kx_) ?_
      exact W.retZ X102 hx hlk (t := .boolean) (z' := (1 : Int32)) Bd.returns (by simp) (hb hby at_35) rfl (by show Q0 Z x0 xm aw h0 n0 _ T102.heap _; rw [eq102]; exact ⟨rfl, N102⟩) (by decide) (by decide)
  · refine W.s1 (mkF m 7 #[.val (.int x0), .val (.int xm), .unset] [(.int x0)]) (fun _ kx_ => XS.iloadN X0.here hx rfl (hb hby at_6) rfl kx_) ?_
    refine W.s1 (mkF m 8 #[.val (.int x0), .val (.int xm), .val (.int x0)] []) (fun _ kx_ => XS.istoreN X0.here hx rfl (hb hby at_7) rfl (l' := #[.val (.int x0), .val (.int xm), .val (.int x0)]) rfl kx_) ?_
    refine W.s1 (mkF m 19 #[.val (.int x0), .val (.int xm), .val (.int x0)] []) (fun _ kx_ => XS.goto X0.here hx rfl (pc0 := 8) (pc' := 19) rfl (hb hby at_8) (by decide) (by decide) kx_) ?_
    refine W.s1 (mkF m 20 #[.val (.int x0), .val (.int xm), .val (.int x0)] [(.int x0)]) (fun _ kx_ => XS.iloadN X0.here hx rfl (hb hby at_19) rfl kx_) ?_
    obtain ⟨_, _, ⟨T103, L103, k103, n103⟩, -, X103, ⟨Lc103, hQ103, l103, y103, z103⟩, st103⟩ := Jvm.LawKit.callS X0 hx (y := (⟨"com/example/bitpress/bitpress/FixedWidthStream", "isWidth", "(I)Z"⟩ : MethodName)) hown (mvT hZ (hw _ (List.mem_of_getElem? (i := 0) rfl))) (mvT hZ (hw _ (List.mem_of_getElem? (i := 1) rfl))) (mvT hZ (hw _ (List.mem_of_getElem? (i := 2) rfl))) (mvT hZ (hw _ (List.mem_of_getElem? (i := 3) rfl))) (by decide) (backOf (W := 0) (rm1 l Z a0 hw [] x0 aw h0 n0 Z0 S0 A0) hZ (hw _ (List.mem_of_getElem? (i := 3) rfl)) (hw _ (List.mem_of_getElem? (i := 2) rfl)) (by decide) (by decide)) (g := (mkF m 20 #[.val (.int x0), .val (.int xm), .val (.int x0)] [(.int x0)])) rfl (by rw [hml]; rfl) (argsL := [(.int x0)]) (rest := []) (lenOf pd_0 rfl) rfl (by show 2 * 0 + _ ≤ _; exact Nat.le_of_eq rfl) (hb hby at_20) (fun _ _ => ⟨rfl, e0, (by decide : 0 + 0 ≤ _), (by decide : 0 + 0 ≤ _)⟩)
    dsimp only [Pt.U, Pt.locs, Pt.cells, Pt.slots] at X103 l103 y103 z103 st103 hQ103
    subst l103 y103 z103
    obtain ⟨ra, rfl, Nq103, eq103, hra⟩ := hQ103
    have N103 := Fr.app N0 Nq103
    refine W.s2 (mkF m 23 #[.val (.int x0), .val (.int xm), .val (.int x0)] [(.int ra)]) st103 ?_
    refine W.s1 (mkF m 24 #[.val (.int x0), .val (.int xm), .val (.int x0)] [(.int x0), (.int ra)]) (fun _ kx_ => XS.iloadN X103.here hx rfl (hb hby at_23) rfl kx_) ?_
    obtain ⟨_, _, ⟨T104, L104, k104, n104⟩, -, X104, ⟨Lc104, hQ104, l104, y104, z104⟩, st104⟩ := Jvm.LawKit.callS X103 hx (y := (⟨"com/example/bitpress/bitpress/FixedWidthStreamIsWidthPinLaw", "expected", "(I)Z"⟩ : MethodName)) hown (mvT hZ (hw _ (List.mem_of_getElem? (i := 4) rfl))) (mvT hZ (hw _ (List.mem_of_getElem? (i := 5) rfl))) (mvT hZ (hw _ (List.mem_of_getElem? (i := 6) rfl))) (mvT hZ (hw _ (List.mem_of_getElem? (i := 7) rfl))) (by decide) (backOf (W := 1) (rm2 l Z a0 hw [] x0 h0 n0 Z0 ) hZ (hw _ (List.mem_of_getElem? (i := 7) rfl)) (hw _ (List.mem_of_getElem? (i := 6) rfl)) (by decide) (by decide)) (g := (mkF m 24 #[.val (.int x0), .val (.int xm), .val (.int x0)] [(.int x0), (.int ra)])) rfl (by rw [hml]; rfl) (argsL := [(.int x0)]) (rest := [(.int ra)]) (lenOf pd_0 rfl) rfl (by show 2 * 0 + _ ≤ _; exact Nat.le_of_eq rfl) (hb hby at_24) (fun _ _ => ⟨rfl, eq103, (by decide : 0 + 0 ≤ _), (by decide : 0 + 0 ≤ _)⟩)
    dsimp only [Pt.U, Pt.locs, Pt.cells, Pt.slots] at X104 l104 y104 z104 st104 hQ104
    subst l104 y104 z104
    obtain ⟨rb, rfl, Nq104, eq104, hrb⟩ := hQ104
    have N104 := Fr.app N103 Nq104
    have hq : ra = rb := by rcases hra with ⟨rfl, a⟩ | ⟨rfl, a⟩ <;> rcases hrb with ⟨rfl, b⟩ | ⟨rfl, b⟩ <;> first | rfl | exact absurd a b | exact absurd b a
    refine W.s2 (mkF m 27 #[.val (.int x0), .val (.int xm), .val (.int x0)] [(.int rb), (.int ra)]) st104 ?_
    refine W.icmp X104 hx (hb hby at_27) (pc' := 34) (pc'' := 30) (by decide) (by decide) rfl (fun (c27 : ¬ ra = rb) => ?_) (fun (c27 : ra = rb) => ?_)
    · exact absurd hq c27
    · refine W.s1 (mkF m 31 #[.val (.int x0), .val (.int xm), .val (.int x0)] [(.int (1 : Int32))]) (fun _ kx_ => XS.iconst X104.here hx rfl (hb hby at_30) kx_) ?_
      refine W.s1 (mkF m 35 #[.val (.int x0), .val (.int xm), .val (.int x0)] [(.int (1 : Int32))]) (fun _ kx_ => XS.goto X104.here hx rfl (pc0 := 31) (pc' := 35) rfl (hb hby at_31) (by decide) (by decide) kx_) ?_
      exact W.retZ X104 hx hlk (t := .boolean) (z' := (1 : Int32)) Bd.returns (by simp) (hb hby at_35) rfl (by show Q0 Z x0 xm aw h0 n0 _ T104.heap _; rw [eq104]; exact ⟨rfl, N104⟩) (by decide) (by decide)
set_option maxRecDepth 65536 in
set_option maxHeartbeats 40000000 in
theorem comes_1 {Post : Tables → Env → Array Value → State → Outcome → State → Prop} (hpost : ∀ tb e args s v u, (limb_1_1.after args s (.returned v) u = true ∧ limb_1_2.after args s (.returned v) u = true ∧ True) → FrameEnd s (.returned v) u (Jvm.fieldLocs frame_1_writes args s ++ Jvm.arrayLocs frame_1_arrays args s ++ Jvm.staticLocs frame_1_statics s) 0 0 → Post tb e args s (.returned v) u) :
    ArmFor flags0 classFile x code maxLocals ret World_1 tables_1 room_1 Calls_1 rest_1 Pre_1 Post := by
  intro l hfl _ _ p e ha hc hk s m args below hf hA hF happ hP
  obtain ⟨hcalls, hrest, hpre⟩ := hP
  obtain ⟨-, -, -, hnamed, -, -, -, hat⟩ := (Spec.applies_iff hf).mp happ
  obtain ⟨hg, hn⟩ := and_e (Cond.before_iff.mp (show (Jvm.Cond.and given_1 narrow_1).before args s = true from hpre))
  obtain ⟨gc, g0⟩ := and_e hg
  obtain ⟨w_0, g1⟩ := and_e g0
  have w_1 := g1
  obtain ⟨w0, w1, rfl⟩ : ∃ w0 w1 : Value, args = #[w0, w1] := by
    have hs : args.size = 2 := by simpa [Cond.value, given_1] using gc
    obtain ⟨L⟩ := args
    match L, hs with
    | [w0, w1], _ => exact ⟨w0, w1, rfl⟩
  have hw := fun d (hd : d ∈ tables_1) => atoms_spec (ws := Jvm.Cond.code x code maxLocals ret :: tables_1) hat d (List.mem_cons_of_mem _ hd)
  have hfit : Fit s := fun {y c} hc i hi => by
    obtain ⟨ha, rfl⟩ := Array.getElem?_eq_some_iff.mp hc
    have q := List.all_eq_true.mp ((Array.all_eq_true_iff_forall_mem.mp hF) _ (Array.getElem_mem ha)) i (List.mem_range.mpr hi)
    simpa [Array.getElem?_eq_getElem hi] using q
  obtain ⟨i0, ei0⟩ := is_v w_0
  obtain rfl : w0 = (.int i0) := Option.some.inj ei0
  obtain ⟨i1, ei1⟩ := is_v w_1
  obtain rfl : w1 = (.int i1) := Option.some.inj ei1
  obtain ⟨y1, q1⟩ := and_e hn
  obtain ⟨y2, q2⟩ := and_e q1
  obtain ⟨z0, q3⟩ := and_e q2
  obtain ⟨z1, q4⟩ := and_e q3
  obtain ⟨z2, q5⟩ := and_e q4
  obtain ⟨z3, q6⟩ := and_e q5
  obtain ⟨z4, q7⟩ := and_e q6
  obtain ⟨u0, q8⟩ := and_e q7
  obtain ⟨u1, q9⟩ := and_e q8
  obtain ⟨u2, q10⟩ := and_e q9
  obtain ⟨u3, q11⟩ := and_e q10
  obtain ⟨u4, q12⟩ := and_e q11
  obtain ⟨u5, q13⟩ := and_e q12
  obtain ⟨u6, q14⟩ := and_e q13
  obtain ⟨u7, q15⟩ := and_e q14
  obtain ⟨u8, q16⟩ := and_e q15
  obtain ⟨u9, q17⟩ := and_e q16
  obtain ⟨aw, v1⟩ := arr_v y1
  have ht : ∀ idx, (Jvm.Term.static "com/example/bitpress/bitpress/FixedWidthStream" "WIDTH_FOR_BITS" "[I").eval #[Value.int i0, Value.int i1] s none idx s = some (.ref aw) := fun idx => v1
  obtain ⟨cl, A⟩ := Arr.start v1 y1
  have hlen := own_eqI y2
  obtain ⟨_, _, t1, t2, t3⟩ := Term.length_spec hlen
  cases v1.symm.trans t1
  cases (A.fin (Vm.Alike.refl _)).symm.trans t2
  have hs : cl.slots.size = 65 := by
    by_cases hb : cl.slots.size < 2 ^ 31
    · have e := len_toInt hb; rw [← Value.int.inj t3] at e; have e65 : (65 : Int32).toInt = 65 := rfl; omega
    · exact absurd (own_len (ht []) (A.fin (Vm.Alike.refl _)) hlen) hb
  have A0 : W.AI s s.heap aw .int 65 own_w := by
    refine ⟨cl, A, hs, fun k hk => ?_⟩
    have s0 : cl.slots[0]? = some (.int 0) := own_slot (ht []) A.1 (Term.int_eval 0) (own_eqX z0)
    have s1 : cl.slots[1]? = some (.int 1) := own_slot (ht []) A.1 (Term.int_eval 1) (own_eqX z1)
    have s2 : cl.slots[2]? = some (.int 2) := own_slot (ht []) A.1 (Term.int_eval 2) (own_eqX z2)
    have s3 : cl.slots[3]? = some (.int 4) := own_slot (ht []) A.1 (Term.int_eval 3) (own_eqX z3)
    have s4 : cl.slots[4]? = some (.int 4) := own_slot (ht []) A.1 (Term.int_eval 4) (own_eqX z4)
    have hall : ∀ j : Fin 65, cl.slots[j.1]? = some (.int (own_w j.1)) := by
      intro j
      have hj := j.2
      have e1 : (Int32.ofNat j.1).toInt = j.1 := Int32.toInt_ofNat_small (by omega)
      by_cases p0 : j.1 = 0
      · rw [p0]; exact s0
      by_cases p1 : j.1 = 1
      · rw [p1]; exact s1
      by_cases p2 : j.1 = 2
      · rw [p2]; exact s2
      by_cases p3 : j.1 = 3
      · rw [p3]; exact s3
      by_cases p4 : j.1 = 4
      · rw [p4]; exact s4
      by_cases r0 : j.1 < 9
      · have e : own_w j.1 = 8 := by unfold own_w own_wn; rw [if_neg (by omega)]; rw [if_neg (by omega)]; rw [if_pos (by omega)]; rfl
        rw [e]; exact own_rng hj ht A hs u0 (by rw [Int32.lt_iff_toInt_lt, e1, show (5 : Int32).toInt = 5 from rfl]; omega) (by rw [Int32.le_iff_toInt_le, e1, show (9 : Int32).toInt = 9 from rfl]; omega)
      by_cases r1 : j.1 < 13
      · have e : own_w j.1 = 12 := by unfold own_w own_wn; rw [if_neg (by omega)]; rw [if_neg (by omega)]; rw [if_neg (by omega)]; rw [if_pos (by omega)]; rfl
        rw [e]; exact own_rng hj ht A hs u1 (by rw [Int32.lt_iff_toInt_lt, e1, show (9 : Int32).toInt = 9 from rfl]; omega) (by rw [Int32.le_iff_toInt_le, e1, show (13 : Int32).toInt = 13 from rfl]; omega)
      by_cases r2 : j.1 < 17
      · have e : own_w j.1 = 16 := by unfold own_w own_wn; rw [if_neg (by omega)]; rw [if_neg (by omega)]; rw [if_neg (by omega)]; rw [if_neg (by omega)]; rw [if_pos (by omega)]; rfl
        rw [e]; exact own_rng hj ht A hs u2 (by rw [Int32.lt_iff_toInt_lt, e1, show (13 : Int32).toInt = 13 from rfl]; omega) (by rw [Int32.le_iff_toInt_le, e1, show (17 : Int32).toInt = 17 from rfl]; omega)
      by_cases r3 : j.1 < 21
      · have e : own_w j.1 = 20 := by unfold own_w own_wn; rw [if_neg (by omega)]; rw [if_neg (by omega)]; rw [if_neg (by omega)]; rw [if_neg (by omega)]; rw [if_neg (by omega)]; rw [if_pos (by omega)]; rfl
        rw [e]; exact own_rng hj ht A hs u3 (by rw [Int32.lt_iff_toInt_lt, e1, show (17 : Int32).toInt = 17 from rfl]; omega) (by rw [Int32.le_iff_toInt_le, e1, show (21 : Int32).toInt = 21 from rfl]; omega)
      by_cases r4 : j.1 < 25
      · have e : own_w j.1 = 24 := by unfold own_w own_wn; rw [if_neg (by omega)]; rw [if_neg (by omega)]; rw [if_neg (by omega)]; rw [if_neg (by omega)]; rw [if_neg (by omega)]; rw [if_neg (by omega)]; rw [if_pos (by omega)]; rfl
        rw [e]; exact own_rng hj ht A hs u4 (by rw [Int32.lt_iff_toInt_lt, e1, show (21 : Int32).toInt = 21 from rfl]; omega) (by rw [Int32.le_iff_toInt_le, e1, show (25 : Int32).toInt = 25 from rfl]; omega)
      by_cases r5 : j.1 < 29
      · have e : own_w j.1 = 28 := by unfold own_w own_wn; rw [if_neg (by omega)]; rw [if_neg (by omega)]; rw [if_neg (by omega)]; rw [if_neg (by omega)]; rw [if_neg (by omega)]; rw [if_neg (by omega)]; rw [if_neg (by omega)]; rw [if_pos (by omega)]; rfl
        rw [e]; exact own_rng hj ht A hs u5 (by rw [Int32.lt_iff_toInt_lt, e1, show (25 : Int32).toInt = 25 from rfl]; omega) (by rw [Int32.le_iff_toInt_le, e1, show (29 : Int32).toInt = 29 from rfl]; omega)
      by_cases r6 : j.1 < 33
      · have e : own_w j.1 = 32 := by unfold own_w own_wn; rw [if_neg (by omega)]; rw [if_neg (by omega)]; rw [if_neg (by omega)]; rw [if_neg (by omega)]; rw [if_neg (by omega)]; rw [if_neg (by omega)]; rw [if_neg (by omega)]; rw [if_neg (by omega)]; rw [if_pos (by omega)]; rfl
        rw [e]; exact own_rng hj ht A hs u6 (by rw [Int32.lt_iff_toInt_lt, e1, show (29 : Int32).toInt = 29 from rfl]; omega) (by rw [Int32.le_iff_toInt_le, e1, show (33 : Int32).toInt = 33 from rfl]; omega)
      by_cases r7 : j.1 < 41
      · have e : own_w j.1 = 40 := by unfold own_w own_wn; rw [if_neg (by omega)]; rw [if_neg (by omega)]; rw [if_neg (by omega)]; rw [if_neg (by omega)]; rw [if_neg (by omega)]; rw [if_neg (by omega)]; rw [if_neg (by omega)]; rw [if_neg (by omega)]; rw [if_neg (by omega)]; rw [if_pos (by omega)]; rfl
        rw [e]; exact own_rng hj ht A hs u7 (by rw [Int32.lt_iff_toInt_lt, e1, show (33 : Int32).toInt = 33 from rfl]; omega) (by rw [Int32.le_iff_toInt_le, e1, show (41 : Int32).toInt = 41 from rfl]; omega)
      by_cases r8 : j.1 < 49
      · have e : own_w j.1 = 48 := by unfold own_w own_wn; rw [if_neg (by omega)]; rw [if_neg (by omega)]; rw [if_neg (by omega)]; rw [if_neg (by omega)]; rw [if_neg (by omega)]; rw [if_neg (by omega)]; rw [if_neg (by omega)]; rw [if_neg (by omega)]; rw [if_neg (by omega)]; rw [if_neg (by omega)]; rw [if_pos (by omega)]; rfl
        rw [e]; exact own_rng hj ht A hs u8 (by rw [Int32.lt_iff_toInt_lt, e1, show (41 : Int32).toInt = 41 from rfl]; omega) (by rw [Int32.le_iff_toInt_le, e1, show (49 : Int32).toInt = 49 from rfl]; omega)
      by_cases r9 : j.1 < 57
      · have e : own_w j.1 = 56 := by unfold own_w own_wn; rw [if_neg (by omega)]; rw [if_neg (by omega)]; rw [if_neg (by omega)]; rw [if_neg (by omega)]; rw [if_neg (by omega)]; rw [if_neg (by omega)]; rw [if_neg (by omega)]; rw [if_neg (by omega)]; rw [if_neg (by omega)]; rw [if_neg (by omega)]; rw [if_neg (by omega)]; rw [if_pos (by omega)]; rfl
        rw [e]; exact own_rng hj ht A hs u9 (by rw [Int32.lt_iff_toInt_lt, e1, show (49 : Int32).toInt = 49 from rfl]; omega) (by rw [Int32.le_iff_toInt_le, e1, show (57 : Int32).toInt = 57 from rfl]; omega)
      have e : own_w j.1 = 64 := by unfold own_w own_wn; rw [if_neg (by omega)]; rw [if_neg (by omega)]; rw [if_neg (by omega)]; rw [if_neg (by omega)]; rw [if_neg (by omega)]; rw [if_neg (by omega)]; rw [if_neg (by omega)]; rw [if_neg (by omega)]; rw [if_neg (by omega)]; rw [if_neg (by omega)]; rw [if_neg (by omega)]; rw [if_neg (by omega)]; rfl
      rw [e]; exact own_rngL hj ht A hs q17 (by rw [Int32.lt_iff_toInt_lt, e1, show (57 : Int32).toInt = 57 from rfl]; omega)
    exact hall ⟨k, hk⟩
  have S0 := Sta.start v1 (Or.inr ⟨(hw _ (List.mem_of_getElem? (i := 2) rfl)), (hw _ (List.mem_of_getElem? (i := 9) rfl))⟩)
  obtain ⟨n, o, h1, h2, h3, _, L, rfl, ⟨rfl, N⟩, hq⟩ := rm0 l s _ hw tables_1 i0 i1 aw s.heap s.heap.size (Nat.le_refl _) S0 A0 p e ha hc hk s m _ below hf ((Spec.applies_iff_loose hf).mp happ).1 ⟨rfl, State.Warmed39.refl s, rfl⟩ trivial
  refine ⟨n, _, h1, h2, h3, hpost _ _ _ _ _ _ ⟨Cond.after_iff.mpr rfl, Cond.after_iff.mpr (eq_i res_at (Term.int_eval (1)) rfl), trivial⟩ ⟨hq.1, hq.2.1, (hq.2.2.sift fun y hy => Or.inr (N y hy)).mono (by decide) (by decide)⟩⟩
theorem main_1_1 : Claimed_1_1 := comes_1 fun _ _ _ _ _ _ h hF => ⟨h.1, hF⟩
theorem main_1_2 : Claimed_1_2 := comes_1 fun _ _ _ _ _ _ h hF => ⟨h.2.1, hF⟩
end Jvm.Pilot.@@N@@
namespace Jvm.Pilot.@@N@@
open Jvm Jvm.ClassFile Sem Op Lib Jvm.Free Jvm.Stand Jvm.Pilot.@@N@@.Jvm.D
/-! MADE BY PROGRAM (witnessworld.py) out of the Statement's table words and the real class files: 9 classes; the members and pool entries that the words name. The judged class is class 1, her method 1. -/
namespace start1
open Jvm.ClassFile
def u (s : String) : CpInfo := .utf8 (stringToUtf16 s)
/-- a pool by its gaps: so many unusable entries, then the entry; so many at the end -/
def gap : Nat → List CpInfo → List CpInfo
  | 0, r => r
  | n + 1, r => .unusable :: gap n r
def poolList (es : List (Nat × CpInfo)) (last : Nat) : List CpInfo := es.foldr (fun e r => gap e.1 (e.2 :: r)) (gap last [])
def pool (es : List (Nat × CpInfo)) (last : Nat) : Array CpInfo := ⟨poolList es last⟩
def fileOf (pool : Array CpInfo) (this : Nat) (attrs : Array Attribute := #[]) (ms : Array MethodInfo := #[]) (fl : Nat := 33) (sup : Nat := 0) (ifs : Array Nat := #[]) (fds : Array FieldInfo := #[]) : ClassFile where
  minorVersion := 0
  majorVersion := 65
  constantPool := pool
  accessFlags := fl
  thisClass := this
  superClass := sup
  interfaces := ifs
  fields := fds
  methods := ms
  attributes := attrs
def plain (name : String) (sup : Option ClassId) : Class where
  name := name
  kind := .ordinary
  loader := none
  accessFlags := 33
  super := sup
  interfaces := #[]
  cf := none
  fields := #[]
  methods := #[]
  instanceTypes := #[]
  staticTypes := #[]
  resolved := #[]
  callSites := []
  init := .initialized
  statics := none
  mirror := none

def pool0 : Array CpInfo := pool [(5, u "<init>"), (0, u "()V"), (1, .class_ 10), (1, u "java/lang/Object")] 113

def k0m0 : Method := { name := "<init>", desc := "()V", sig := { parameters := [], returnType := none }, accessFlags := 1, code := none }
/-- java/lang/Object -/
def k0 : Class := { plain "java/lang/Object" none with
  accessFlags := 33
  interfaces := #[]
  cf := some (fileOf pool0 8 #[] #[{ accessFlags := 1, nameIndex := 5, descriptorIndex := 6, attributes := #[] }] 33 0 #[] #[])
  fields := #[]
  methods := #[k0m0]
  instanceTypes := #[]
  staticTypes := #[]
  resolved := Array.replicate 124 none
  statics := none }

def pool1 : Array CpInfo := pool [(2, .class_ 4), (1, u "java/lang/Object"), (0, u "<init>"), (0, u "()V"), (0, .methodref 8 9), (0, .class_ 10), (0, .nameAndType 11 12), (0, u "com/example/bitpress/bitpress/FixedWidthStream"), (0, u "isWidth"), (0, u "(I)Z"), (0, .methodref 14 15), (0, .class_ 16), (0, .nameAndType 17 12), (0, u "com/example/bitpress/bitpress/FixedWidthStreamIsWidthPinLaw"), (0, u "expected"), (2, u "law"), (0, u "(II)Z")] 3

def k1m0 : Method := { name := "<init>", desc := "()V", sig := { parameters := [], returnType := none }, accessFlags := 2, code := none }
def k1c1 : Code := { maxStack := 2, maxLocals := 3, code := code, exceptionTable := #[], attributes := #[] }
def k1m1 : Method := { name := "law", desc := "(II)Z", sig := { parameters := [.int, .int], returnType := some .boolean }, accessFlags := 9, code := some k1c1 }
def k1c2 : Code := { maxStack := 2, maxLocals := 1, code := method_3_code, exceptionTable := #[], attributes := #[] }
def k1m2 : Method := { name := "expected", desc := "(I)Z", sig := { parameters := [.int], returnType := some .boolean }, accessFlags := 10, code := some k1c2 }
/-- com/example/bitpress/bitpress/FixedWidthStreamIsWidthPinLaw -/
def k1 : Class := { plain "com/example/bitpress/bitpress/FixedWidthStreamIsWidthPinLaw" (some 0) with
  accessFlags := 49
  interfaces := #[]
  cf := some (fileOf pool1 14 #[] #[{ accessFlags := 2, nameIndex := 5, descriptorIndex := 6, attributes := #[] }, { accessFlags := 9, nameIndex := 20, descriptorIndex := 21, attributes := #[] }, { accessFlags := 10, nameIndex := 17, descriptorIndex := 12, attributes := #[] }] 49 2 #[] #[])
  fields := #[]
  methods := #[k1m0, k1m1, k1m2]
  instanceTypes := #[]
  staticTypes := #[]
  resolved := Array.replicate 25 none
  statics := none }

def pool2 : Array CpInfo := pool [(6, .class_ 8), (1, u "java/lang/Object"), (0, u "<init>"), (0, u "()V"), (0, .fieldref 12 13), (0, .class_ 14), (0, .nameAndType 15 16), (0, u "com/example/bitpress/bitpress/FixedWidthStream"), (0, u "WIDTH_FOR_BITS"), (0, u "[I"), (4, u "isWidth"), (0, u "(I)Z"), (4, u "WIDTHS"), (32, u "PADDING_BYTES"), (0, u "I"), (2, u "MAX_VALUES"), (0, u "J")] 27

def k2m0 : Method := { name := "<init>", desc := "()V", sig := { parameters := [], returnType := none }, accessFlags := 2, code := none }
def k2c1 : Code := { maxStack := 2, maxLocals := 1, code := prog_21_method_3_code, exceptionTable := #[], attributes := #[] }
def k2m1 : Method := { name := "isWidth", desc := "(I)Z", sig := { parameters := [.int], returnType := some .boolean }, accessFlags := 8, code := some k2c1 }
/-- com/example/bitpress/bitpress/FixedWidthStream -/
def k2 : Class := { plain "com/example/bitpress/bitpress/FixedWidthStream" (some 0) with
  accessFlags := 48
  interfaces := #[]
  cf := some (fileOf pool2 12 #[] #[{ accessFlags := 2, nameIndex := 9, descriptorIndex := 10, attributes := #[] }, { accessFlags := 8, nameIndex := 21, descriptorIndex := 22, attributes := #[] }] 48 6 #[] #[{ accessFlags := 24, nameIndex := 60, descriptorIndex := 61, attributes := #[] }, { accessFlags := 26, nameIndex := 27, descriptorIndex := 16, attributes := #[] }, { accessFlags := 26, nameIndex := 15, descriptorIndex := 16, attributes := #[] }, { accessFlags := 26, nameIndex := 64, descriptorIndex := 65, attributes := #[] }])
  fields := #[{ name := "PADDING_BYTES", type := .int, accessFlags := 24, slot := 0, constantValue := 0 }, { name := "WIDTHS", type := (.array .int), accessFlags := 26, slot := 1, constantValue := 0 }, { name := "WIDTH_FOR_BITS", type := (.array .int), accessFlags := 26, slot := 2, constantValue := 0 }, { name := "MAX_VALUES", type := .long, accessFlags := 26, slot := 3, constantValue := 0 }]
  methods := #[k2m0, k2m1]
  instanceTypes := #[]
  staticTypes := #[.int, (.array .int), (.array .int), .long]
  resolved := Array.replicate 93 none
  statics := some 0 }

def pool3 : Array CpInfo := pool [(1, u "java/lang/Cloneable"), (0, .class_ 1), (0, u "java/lang/Object"), (0, .class_ 3)] 3

/-- java/lang/Cloneable -/
def k3 : Class := { plain "java/lang/Cloneable" (some 0) with
  accessFlags := 1537
  interfaces := #[]
  cf := some (fileOf pool3 2 #[] #[] 1537 4 #[] #[])
  fields := #[]
  methods := #[]
  instanceTypes := #[]
  staticTypes := #[]
  resolved := Array.replicate 8 none
  statics := none }

def pool4 : Array CpInfo := pool [(1, u "java/io/Serializable"), (0, .class_ 1), (0, u "java/lang/Object"), (0, .class_ 3)] 3

/-- java/io/Serializable -/
def k4 : Class := { plain "java/io/Serializable" (some 0) with
  accessFlags := 1537
  interfaces := #[]
  cf := some (fileOf pool4 2 #[] #[] 1537 4 #[] #[])
  fields := #[]
  methods := #[]
  instanceTypes := #[]
  staticTypes := #[]
  resolved := Array.replicate 8 none
  statics := none }

/-- the primitive byte -/
def k5 : Class := { plain "byte" none with kind := .primitive 'B', accessFlags := 0x411 }
/-- [B -/
def k6 : Class := { plain "[B" (some 0) with kind := .array 5 .byte, interfaces := #[3, 4], accessFlags := 1041 }

/-- the primitive int -/
def k7 : Class := { plain "int" none with kind := .primitive 'I', accessFlags := 0x411 }
/-- [I -/
def k8 : Class := { plain "[I" (some 0) with kind := .array 7 .int, interfaces := #[3, 4], accessFlags := 1041 }

def heap : Heap := #[{ cls := 2, slots := #[.int 0, .null, .ref 1, .long 0], vm := .statics 2 },
  { cls := 8, slots := #[.int 0, .int 1, .int 2, .int 4, .int 4, .int 8, .int 8, .int 8, .int 8, .int 12, .int 12, .int 12, .int 12, .int 16, .int 16, .int 16, .int 16, .int 20, .int 20, .int 20, .int 20, .int 24, .int 24, .int 24, .int 24, .int 28, .int 28, .int 28, .int 28, .int 32, .int 32, .int 32, .int 32, .int 40, .int 40, .int 40, .int 40, .int 40, .int 40, .int 40, .int 40, .int 48, .int 48, .int 48, .int 48, .int 48, .int 48, .int 48, .int 48, .int 56, .int 56, .int 56, .int 56, .int 56, .int 56, .int 56, .int 56, .int 64, .int 64, .int 64, .int 64, .int 64, .int 64, .int 64, .int 64], vm := .none }]
def classes : Array Class := #[k0, k1, k2, k3, k4, k5, k6, k7, k8]
def interned : List (Array UInt16 × Addr) := []
def slotsUsed : Nat := 69
def theMethod : MethodId := ⟨1, 1⟩
def args0 : Array Value := #[.int 5, .int 0]
def aboutOver (below : List Frame) : State where
  vm := { classes := classes, interned := interned.toArray }
  heap := heap
  slotsUsed := slotsUsed
  threads := #[{ frames := .invoking theMethod args0 :: below }]
def below0 : List Frame := [.native { method := ⟨0, 0⟩, args := #[] }]
def about1 : State := aboutOver below0
def p0 : Program := .bare "" "" ""
def e0 : Env := launch0.env 0 0 0
theorem w_frames : about1.frames = Frame.invoking theMethod args0 :: below0 := rfl
set_option maxRecDepth 65536 in
theorem w_args : argsFit about1.vm theMethod args0 = true := by decide +kernel
set_option maxRecDepth 65536 in
theorem w_heap : heapFits about1 = true := by decide +kernel
set_option maxRecDepth 65536 in
theorem w_runnable : about1.curStatus? = some .runnable := by decide +kernel
set_option maxRecDepth 65536 in
theorem w_alone : about1.alone = true := by decide +kernel
set_option maxRecDepth 65536 in
theorem w_named : about1.methodNamed? x = some theMethod := by decide +kernel
set_option maxRecDepth 65536 in
theorem w_hears : about1.hears theMethod below0 = true := by decide +kernel
set_option maxRecDepth 65536 in
theorem w_ripe : about1.ripe theMethod args0 below0 = true := by decide +kernel
theorem w_running : about1.status = .running := rfl
set_option maxRecDepth 65536 in
theorem w_room : about1.hasRoom e0.platform room_1 = true :=
  launch0.hasRoom_least _ room_1 (by decide +kernel) (by decide +kernel) (by decide +kernel) (by decide +kernel) (by decide +kernel) (by decide +kernel)
theorem allAtoms_all (ts : List Jvm.Cond) (a : Array Jvm.Value) (st : Jvm.State) : (allAtoms ts).before a st = ts.all (fun c => c.before a st) := by
  induction ts with
  | nil => rfl
  | cons c t ih =>
    show (Jvm.Cond.and c (allAtoms t)).before a st = _
    rw [Jvm.Cond.before_and, ih, List.all_cons]
def words1 : List Jvm.Cond := Jvm.Cond.code x code maxLocals ret :: tables_1
/-- a 'code' word, met by the world's own term for the bytes: nothing is compared byte by byte -/
theorem code_word {y : MethodName} {bytes : ByteArray} {mx : Nat} {rt : Option FieldType} {a : Array Value} {s : State} {m : MethodId} {meth : Method} {c : Code} (h1 : s.methodNamed? y = some m) (h2 : s.vm.method? m = some meth) (h3 : meth.code = some c) (h4 : c.code = bytes)
    (h5 : (c.maxLocals == mx && c.exceptionTable.isEmpty && decide (c.maxStack ≤ mostOperands) && decide (meth.sig.returnType = rt) && !meth.locks && decide (parseMethodDescriptor y.desc = some meth.sig)) = true) : (Jvm.Cond.code y bytes mx rt).before a s = true := by
  simp only [Bool.and_eq_true, beq_iff_eq, Bool.not_eq_true', decide_eq_true_eq] at h5
  obtain ⟨⟨⟨⟨⟨g1, g2⟩, g3⟩, g4⟩, g5⟩, g6⟩ := h5
  simp [Cond.before, Cond.holds, Cond.value, h1, h2, h3, h4, g1, g2, g3, g4, g5, g6]
def isCode : Jvm.Cond → Bool
  | .code _ _ _ _ => true
  | _ => false
theorem all_split {L : List Jvm.Cond} {P : Jvm.Cond → Bool} (h1 : L.all (fun c => isCode c || P c) = true) (h2 : ∀ c ∈ L.filter isCode, P c = true) : L.all P = true := by
  refine List.all_eq_true.mpr fun c hc => ?_
  have h := List.all_eq_true.mp h1 c hc
  rcases Bool.eq_false_or_eq_true (isCode c) with hi | hi
  · exact h2 c (List.mem_filter.mpr ⟨hc, hi⟩)
  · simpa [hi] using h
set_option maxRecDepth 65536 in
theorem w_c0 : (Jvm.Cond.code x code maxLocals ret).before args0 about1 = true := code_word (m := ⟨1, 1⟩) (meth := k1m1) (c := k1c1) (by decide +kernel) rfl rfl rfl (by decide +kernel)
set_option maxRecDepth 65536 in
theorem w_c1 : (Jvm.Cond.code ({ cls := "com/example/bitpress/bitpress/FixedWidthStream", name := "isWidth", desc := "(I)Z" } : Jvm.MethodName) prog_21_method_3_code (1 : Nat) (Option.some Jvm.ClassFile.FieldType.boolean)).before args0 about1 = true := code_word (m := ⟨2, 1⟩) (meth := k2m1) (c := k2c1) (by decide +kernel) rfl rfl rfl (by decide +kernel)
set_option maxRecDepth 65536 in
theorem w_c2 : (Jvm.Cond.code ({ cls := "com/example/bitpress/bitpress/FixedWidthStreamIsWidthPinLaw", name := "expected", desc := "(I)Z" } : Jvm.MethodName) method_3_code (1 : Nat) (Option.some Jvm.ClassFile.FieldType.boolean)).before args0 about1 = true := code_word (m := ⟨1, 2⟩) (meth := k1m2) (c := k1c2) (by decide +kernel) rfl rfl rfl (by decide +kernel)
def codes1 : List Jvm.Cond := [Jvm.Cond.code x code maxLocals ret, Jvm.Cond.code ({ cls := "com/example/bitpress/bitpress/FixedWidthStream", name := "isWidth", desc := "(I)Z" } : Jvm.MethodName) prog_21_method_3_code (1 : Nat) (Option.some Jvm.ClassFile.FieldType.boolean), Jvm.Cond.code ({ cls := "com/example/bitpress/bitpress/FixedWidthStreamIsWidthPinLaw", name := "expected", desc := "(I)Z" } : Jvm.MethodName) method_3_code (1 : Nat) (Option.some Jvm.ClassFile.FieldType.boolean)]
set_option maxRecDepth 65536 in
theorem codes_eq : words1.filter isCode = codes1 := rfl
theorem w_codes : ∀ c ∈ words1.filter isCode, c.before args0 about1 = true := by
  rw [codes_eq]
  intro c hc
  simp only [codes1, List.mem_cons, List.not_mem_nil, or_false] at hc
  rcases hc with rfl | rfl | rfl
  · exact w_c0
  · exact w_c1
  · exact w_c2
set_option maxRecDepth 65536 in
theorem w_t1 : words1.all (fun c => isCode c || c.before args0 about1) = true := by decide +kernel
theorem w_tables : (allAtoms (Jvm.Cond.code x code maxLocals ret :: tables_1)).before args0 about1 = true := by
  rw [allAtoms_all]
  show words1.all (fun c => c.before args0 about1) = true
  refine all_split ?_ w_codes
  rw [w_t1]
set_option maxRecDepth 65536 in
theorem w_case : (Jvm.Cond.and given_1 narrow_1).before args0 about1 = true := by decide +kernel
theorem w_applies : (headSpec (Jvm.Cond.code x code maxLocals ret :: tables_1) room_1).applies x e0.platform about1 = true :=
  (Spec.applies_iff w_frames).mpr ⟨w_running, w_runnable, w_alone, w_named, w_hears, w_ripe, w_room, w_tables⟩
theorem atStart : AtStart classFile x code maxLocals ret World_1 tables_1 room_1 Calls_1 rest_1 Pre_1 launch0 p0 e0 about1 theMethod args0 below0 :=
  ⟨lists_1, trivial, launch0.admits_env _ _ _, launch0.least_env, fairChoices_fair.cas, fairChoices_fair.clock, w_frames, w_args, w_heap, w_applies, trivial, trivial, w_case⟩
end start1
theorem witness_1 : WitnessClaimed_1 := ⟨start1.p0, start1.e0, start1.about1, start1.theMethod, start1.args0, start1.below0, start1.atStart⟩
end Jvm.Pilot.@@N@@
