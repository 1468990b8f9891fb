/- A part of the proof that the parent of a node below the root is the node right above it (laws.FnParentTree), for all inputs of bulk at most 1048576 and the listed variables as the text lays them: part 2 of 16. -/
import Derived.Test.YtmalghopogngoaaGreatDoorK1
import Derived.Test.YtmalghopogngoaaGreatDoorProg
/- Short names. -/
namespace Go.Proofs.YtmalghopogngoaaGreatDoor
open Go MW
theorem MW.Ext.cd {e e' : Env} (d : Nat) {v : Value} (h : e d = some v) (h' : Ext e e') : Ext e (upd e' d v) := Ext.cons h h'
theorem MW.W_sr {P : Program} {N : Nat} {Q : Exit → Env → World → Prop} {e : Env} {w : World} {id : Nat} {l : List Oper} {y : Code} (h : WL P l.toArray N l (Th (W P N y Q) Q) e w) : W P N (.seq (.region id l.toArray false) y) Q e w := W_seq (W_reg h)
theorem MW.Pick.t1 {A B0 : Assn} {G : List Assn} : Pick (B0 :: A :: G) A (B0 :: G) := .tail .head
theorem MW.Put.t1 {A C B0 : Assn} {G : List Assn} : Put (B0 :: A :: G) A C (B0 :: C :: G) := .tail .head
theorem MW.Pick.t2 {A B0 B1 : Assn} {G : List Assn} : Pick (B0 :: B1 :: A :: G) A (B0 :: B1 :: G) := .tail (.tail .head)
theorem MW.Put.t2 {A C B0 B1 : Assn} {G : List Assn} : Put (B0 :: B1 :: A :: G) A C (B0 :: B1 :: C :: G) := .tail (.tail .head)
theorem MW.Pick.t3 {A B0 B1 B2 : Assn} {G : List Assn} : Pick (B0 :: B1 :: B2 :: A :: G) A (B0 :: B1 :: B2 :: G) := .tail (.tail (.tail .head))
theorem MW.Put.t3 {A C B0 B1 B2 : Assn} {G : List Assn} : Put (B0 :: B1 :: B2 :: A :: G) A C (B0 :: B1 :: B2 :: C :: G) := .tail (.tail (.tail .head))
theorem MW.Pick.t4 {A B0 B1 B2 B3 : Assn} {G : List Assn} : Pick (B0 :: B1 :: B2 :: B3 :: A :: G) A (B0 :: B1 :: B2 :: B3 :: G) := .tail (.tail (.tail (.tail .head)))
theorem MW.Put.t4 {A C B0 B1 B2 B3 : Assn} {G : List Assn} : Put (B0 :: B1 :: B2 :: B3 :: A :: G) A C (B0 :: B1 :: B2 :: B3 :: C :: G) := .tail (.tail (.tail (.tail .head)))
theorem MW.Pick.t5 {A B0 B1 B2 B3 B4 : Assn} {G : List Assn} : Pick (B0 :: B1 :: B2 :: B3 :: B4 :: A :: G) A (B0 :: B1 :: B2 :: B3 :: B4 :: G) := .tail (.tail (.tail (.tail (.tail .head))))
theorem MW.Put.t5 {A C B0 B1 B2 B3 B4 : Assn} {G : List Assn} : Put (B0 :: B1 :: B2 :: B3 :: B4 :: A :: G) A C (B0 :: B1 :: B2 :: B3 :: B4 :: C :: G) := .tail (.tail (.tail (.tail (.tail .head))))
theorem MW.Pick.t6 {A B0 B1 B2 B3 B4 B5 : Assn} {G : List Assn} : Pick (B0 :: B1 :: B2 :: B3 :: B4 :: B5 :: A :: G) A (B0 :: B1 :: B2 :: B3 :: B4 :: B5 :: G) := .tail (.tail (.tail (.tail (.tail (.tail .head)))))
theorem MW.Put.t6 {A C B0 B1 B2 B3 B4 B5 : Assn} {G : List Assn} : Put (B0 :: B1 :: B2 :: B3 :: B4 :: B5 :: A :: G) A C (B0 :: B1 :: B2 :: B3 :: B4 :: B5 :: C :: G) := .tail (.tail (.tail (.tail (.tail (.tail .head)))))
theorem MW.Pick.t7 {A B0 B1 B2 B3 B4 B5 B6 : Assn} {G : List Assn} : Pick (B0 :: B1 :: B2 :: B3 :: B4 :: B5 :: B6 :: A :: G) A (B0 :: B1 :: B2 :: B3 :: B4 :: B5 :: B6 :: G) := .tail (.tail (.tail (.tail (.tail (.tail (.tail .head))))))
theorem MW.Put.t7 {A C B0 B1 B2 B3 B4 B5 B6 : Assn} {G : List Assn} : Put (B0 :: B1 :: B2 :: B3 :: B4 :: B5 :: B6 :: A :: G) A C (B0 :: B1 :: B2 :: B3 :: B4 :: B5 :: B6 :: C :: G) := .tail (.tail (.tail (.tail (.tail (.tail (.tail .head))))))
theorem MW.Pick.t8 {A B0 B1 B2 B3 B4 B5 B6 B7 : Assn} {G : List Assn} : Pick (B0 :: B1 :: B2 :: B3 :: B4 :: B5 :: B6 :: B7 :: A :: G) A (B0 :: B1 :: B2 :: B3 :: B4 :: B5 :: B6 :: B7 :: G) := .tail (.tail (.tail (.tail (.tail (.tail (.tail (.tail .head)))))))
theorem MW.Put.t8 {A C B0 B1 B2 B3 B4 B5 B6 B7 : Assn} {G : List Assn} : Put (B0 :: B1 :: B2 :: B3 :: B4 :: B5 :: B6 :: B7 :: A :: G) A C (B0 :: B1 :: B2 :: B3 :: B4 :: B5 :: B6 :: B7 :: C :: G) := .tail (.tail (.tail (.tail (.tail (.tail (.tail (.tail .head)))))))
theorem MW.Pick.t9 {A B0 B1 B2 B3 B4 B5 B6 B7 B8 : Assn} {G : List Assn} : Pick (B0 :: B1 :: B2 :: B3 :: B4 :: B5 :: B6 :: B7 :: B8 :: A :: G) A (B0 :: B1 :: B2 :: B3 :: B4 :: B5 :: B6 :: B7 :: B8 :: G) := .tail (.tail (.tail (.tail (.tail (.tail (.tail (.tail (.tail .head))))))))
theorem MW.Put.t9 {A C B0 B1 B2 B3 B4 B5 B6 B7 B8 : Assn} {G : List Assn} : Put (B0 :: B1 :: B2 :: B3 :: B4 :: B5 :: B6 :: B7 :: B8 :: A :: G) A C (B0 :: B1 :: B2 :: B3 :: B4 :: B5 :: B6 :: B7 :: B8 :: C :: G) := .tail (.tail (.tail (.tail (.tail (.tail (.tail (.tail (.tail .head))))))))
theorem MW.Pick.t10 {A B0 B1 B2 B3 B4 B5 B6 B7 B8 B9 : Assn} {G : List Assn} : Pick (B0 :: B1 :: B2 :: B3 :: B4 :: B5 :: B6 :: B7 :: B8 :: B9 :: A :: G) A (B0 :: B1 :: B2 :: B3 :: B4 :: B5 :: B6 :: B7 :: B8 :: B9 :: G) := .tail (.tail (.tail (.tail (.tail (.tail (.tail (.tail (.tail (.tail .head)))))))))
theorem MW.Put.t10 {A C B0 B1 B2 B3 B4 B5 B6 B7 B8 B9 : Assn} {G : List Assn} : Put (B0 :: B1 :: B2 :: B3 :: B4 :: B5 :: B6 :: B7 :: B8 :: B9 :: A :: G) A C (B0 :: B1 :: B2 :: B3 :: B4 :: B5 :: B6 :: B7 :: B8 :: B9 :: C :: G) := .tail (.tail (.tail (.tail (.tail (.tail (.tail (.tail (.tail (.tail .head)))))))))
theorem MW.Pick.t11 {A B0 B1 B2 B3 B4 B5 B6 B7 B8 B9 B10 : Assn} {G : List Assn} : Pick (B0 :: B1 :: B2 :: B3 :: B4 :: B5 :: B6 :: B7 :: B8 :: B9 :: B10 :: A :: G) A (B0 :: B1 :: B2 :: B3 :: B4 :: B5 :: B6 :: B7 :: B8 :: B9 :: B10 :: G) := .tail (.tail (.tail (.tail (.tail (.tail (.tail (.tail (.tail (.tail (.tail .head))))))))))
theorem MW.Put.t11 {A C B0 B1 B2 B3 B4 B5 B6 B7 B8 B9 B10 : Assn} {G : List Assn} : Put (B0 :: B1 :: B2 :: B3 :: B4 :: B5 :: B6 :: B7 :: B8 :: B9 :: B10 :: A :: G) A C (B0 :: B1 :: B2 :: B3 :: B4 :: B5 :: B6 :: B7 :: B8 :: B9 :: B10 :: C :: G) := .tail (.tail (.tail (.tail (.tail (.tail (.tail (.tail (.tail (.tail (.tail .head))))))))))
theorem MW.Pick.t12 {A B0 B1 B2 B3 B4 B5 B6 B7 B8 B9 B10 B11 : Assn} {G : List Assn} : Pick (B0 :: B1 :: B2 :: B3 :: B4 :: B5 :: B6 :: B7 :: B8 :: B9 :: B10 :: B11 :: A :: G) A (B0 :: B1 :: B2 :: B3 :: B4 :: B5 :: B6 :: B7 :: B8 :: B9 :: B10 :: B11 :: G) := .tail (.tail (.tail (.tail (.tail (.tail (.tail (.tail (.tail (.tail (.tail (.tail .head)))))))))))
theorem MW.Put.t12 {A C B0 B1 B2 B3 B4 B5 B6 B7 B8 B9 B10 B11 : Assn} {G : List Assn} : Put (B0 :: B1 :: B2 :: B3 :: B4 :: B5 :: B6 :: B7 :: B8 :: B9 :: B10 :: B11 :: A :: G) A C (B0 :: B1 :: B2 :: B3 :: B4 :: B5 :: B6 :: B7 :: B8 :: B9 :: B10 :: B11 :: C :: G) := .tail (.tail (.tail (.tail (.tail (.tail (.tail (.tail (.tail (.tail (.tail (.tail .head)))))))))))
theorem MW.Pick.t13 {A B0 B1 B2 B3 B4 B5 B6 B7 B8 B9 B10 B11 B12 : Assn} {G : List Assn} : Pick (B0 :: B1 :: B2 :: B3 :: B4 :: B5 :: B6 :: B7 :: B8 :: B9 :: B10 :: B11 :: B12 :: A :: G) A (B0 :: B1 :: B2 :: B3 :: B4 :: B5 :: B6 :: B7 :: B8 :: B9 :: B10 :: B11 :: B12 :: G) := .tail (.tail (.tail (.tail (.tail (.tail (.tail (.tail (.tail (.tail (.tail (.tail (.tail .head))))))))))))
theorem MW.Put.t13 {A C B0 B1 B2 B3 B4 B5 B6 B7 B8 B9 B10 B11 B12 : Assn} {G : List Assn} : Put (B0 :: B1 :: B2 :: B3 :: B4 :: B5 :: B6 :: B7 :: B8 :: B9 :: B10 :: B11 :: B12 :: A :: G) A C (B0 :: B1 :: B2 :: B3 :: B4 :: B5 :: B6 :: B7 :: B8 :: B9 :: B10 :: B11 :: B12 :: C :: G) := .tail (.tail (.tail (.tail (.tail (.tail (.tail (.tail (.tail (.tail (.tail (.tail (.tail .head))))))))))))
theorem MW.Pick.t14 {A B0 B1 B2 B3 B4 B5 B6 B7 B8 B9 B10 B11 B12 B13 : Assn} {G : List Assn} : Pick (B0 :: B1 :: B2 :: B3 :: B4 :: B5 :: B6 :: B7 :: B8 :: B9 :: B10 :: B11 :: B12 :: B13 :: A :: G) A (B0 :: B1 :: B2 :: B3 :: B4 :: B5 :: B6 :: B7 :: B8 :: B9 :: B10 :: B11 :: B12 :: B13 :: G) := .tail (.tail (.tail (.tail (.tail (.tail (.tail (.tail (.tail (.tail (.tail (.tail (.tail (.tail .head)))))))))))))
theorem MW.Put.t14 {A C B0 B1 B2 B3 B4 B5 B6 B7 B8 B9 B10 B11 B12 B13 : Assn} {G : List Assn} : Put (B0 :: B1 :: B2 :: B3 :: B4 :: B5 :: B6 :: B7 :: B8 :: B9 :: B10 :: B11 :: B12 :: B13 :: A :: G) A C (B0 :: B1 :: B2 :: B3 :: B4 :: B5 :: B6 :: B7 :: B8 :: B9 :: B10 :: B11 :: B12 :: B13 :: C :: G) := .tail (.tail (.tail (.tail (.tail (.tail (.tail (.tail (.tail (.tail (.tail (.tail (.tail (.tail .head)))))))))))))
end Go.Proofs.YtmalghopogngoaaGreatDoor
namespace Go.Proofs.YtmalghopogngoaaGreatDoor
open Go Go.RowKit MW
instance : One Tryz.prog 3 := ⟨by kernel_rfl⟩
instance : One Tryz.prog 4 := ⟨by kernel_rfl⟩
instance : One Tryz.prog 5 := ⟨by kernel_rfl⟩
instance : One Tryz.prog 9 := ⟨by kernel_rfl⟩
instance : One Tryz.prog 20 := ⟨by kernel_rfl⟩
instance : One Tryz.prog 22 := ⟨by kernel_rfl⟩
instance : One Tryz.prog 28 := ⟨by kernel_rfl⟩
instance : One Tryz.prog 29 := ⟨by kernel_rfl⟩
instance : One Tryz.prog 34 := ⟨by kernel_rfl⟩
instance : One Tryz.prog 40 := ⟨by kernel_rfl⟩
instance : One Tryz.prog 48 := ⟨by kernel_rfl⟩
instance : One Tryz.prog 50 := ⟨by kernel_rfl⟩
instance : One Tryz.prog 63 := ⟨by kernel_rfl⟩
instance : One Tryz.prog 72 := ⟨by kernel_rfl⟩
instance : One Tryz.prog 78 := ⟨by kernel_rfl⟩
instance : One Tryz.prog 106 := ⟨by kernel_rfl⟩
instance : One Tryz.prog 113 := ⟨by kernel_rfl⟩
instance : One Tryz.prog 118 := ⟨by kernel_rfl⟩
instance : One Tryz.prog 126 := ⟨by kernel_rfl⟩
instance : One Tryz.prog 157 := ⟨by kernel_rfl⟩
instance : One Tryz.prog 172 := ⟨by kernel_rfl⟩
instance : One Tryz.prog 176 := ⟨by kernel_rfl⟩
instance : One Tryz.prog 194 := ⟨by kernel_rfl⟩
instance : One Tryz.prog 211 := ⟨by kernel_rfl⟩
instance : One Tryz.prog 291 := ⟨by kernel_rfl⟩
instance : One Tryz.prog 305 := ⟨by kernel_rfl⟩
instance : Agg Tryz.prog 24 6 := ⟨by kernel_rfl⟩
instance : Agg Tryz.prog 27 5 := ⟨by kernel_rfl⟩
instance : Agg Tryz.prog 31 19 := ⟨by kernel_rfl⟩
instance : Agg Tryz.prog 37 6 := ⟨by kernel_rfl⟩
instance : Agg Tryz.prog 43 13 := ⟨by kernel_rfl⟩
instance : Agg Tryz.prog 80 1 := ⟨by kernel_rfl⟩
instance : FieldAt Tryz.prog 24 0 0 1 := ⟨by kernel_rfl⟩
instance : FieldAt Tryz.prog 24 1 1 1 := ⟨by kernel_rfl⟩
instance : FieldAt Tryz.prog 24 2 2 1 := ⟨by kernel_rfl⟩
instance : FieldAt Tryz.prog 24 3 3 1 := ⟨by kernel_rfl⟩
instance : FieldAt Tryz.prog 24 4 4 1 := ⟨by kernel_rfl⟩
instance : FieldAt Tryz.prog 24 5 5 1 := ⟨by kernel_rfl⟩
instance : FieldAt Tryz.prog 27 0 0 1 := ⟨by kernel_rfl⟩
instance : FieldAt Tryz.prog 27 1 1 1 := ⟨by kernel_rfl⟩
instance : FieldAt Tryz.prog 27 2 2 1 := ⟨by kernel_rfl⟩
instance : FieldAt Tryz.prog 27 3 3 1 := ⟨by kernel_rfl⟩
instance : FieldAt Tryz.prog 27 4 4 1 := ⟨by kernel_rfl⟩
instance : FieldAt Tryz.prog 31 0 0 1 := ⟨by kernel_rfl⟩
instance : FieldAt Tryz.prog 31 1 1 1 := ⟨by kernel_rfl⟩
instance : FieldAt Tryz.prog 31 2 2 1 := ⟨by kernel_rfl⟩
instance : FieldAt Tryz.prog 31 3 3 1 := ⟨by kernel_rfl⟩
instance : FieldAt Tryz.prog 31 4 4 1 := ⟨by kernel_rfl⟩
instance : FieldAt Tryz.prog 31 6 6 1 := ⟨by kernel_rfl⟩
instance : FieldAt Tryz.prog 31 9 9 5 := ⟨by kernel_rfl⟩
instance : FieldAt Tryz.prog 31 10 14 1 := ⟨by kernel_rfl⟩
instance : FieldAt Tryz.prog 31 11 15 1 := ⟨by kernel_rfl⟩
instance : FieldAt Tryz.prog 31 12 16 1 := ⟨by kernel_rfl⟩
instance : FieldAt Tryz.prog 31 14 18 1 := ⟨by kernel_rfl⟩
instance : FieldAt Tryz.prog 37 0 0 1 := ⟨by kernel_rfl⟩
instance : FieldAt Tryz.prog 43 0 0 6 := ⟨by kernel_rfl⟩
instance : FieldAt Tryz.prog 43 1 6 1 := ⟨by kernel_rfl⟩
instance : FieldAt Tryz.prog 43 2 7 1 := ⟨by kernel_rfl⟩
instance : FieldAt Tryz.prog 56 0 0 1 := ⟨by kernel_rfl⟩
instance : FieldAt Tryz.prog 56 1 1 1 := ⟨by kernel_rfl⟩
instance : FieldAt Tryz.prog 56 2 2 1 := ⟨by kernel_rfl⟩
instance : FieldAt Tryz.prog 61 0 0 1 := ⟨by kernel_rfl⟩
instance : FieldAt Tryz.prog 61 1 1 1 := ⟨by kernel_rfl⟩
instance : FieldAt Tryz.prog 71 0 0 1 := ⟨by kernel_rfl⟩
instance : FieldAt Tryz.prog 71 3 3 1 := ⟨by kernel_rfl⟩
instance : FieldAt Tryz.prog 71 4 4 1 := ⟨by kernel_rfl⟩
instance : FieldAt Tryz.prog 71 6 6 1 := ⟨by kernel_rfl⟩
instance : FieldAt Tryz.prog 80 0 0 1 := ⟨by kernel_rfl⟩
instance : FieldAt Tryz.prog 83 0 0 1 := ⟨by kernel_rfl⟩
instance : FieldAt Tryz.prog 94 0 0 1 := ⟨by kernel_rfl⟩
instance : FieldAt Tryz.prog 94 1 1 1 := ⟨by kernel_rfl⟩
instance : FieldAt Tryz.prog 94 2 2 1 := ⟨by kernel_rfl⟩
instance : FieldAt Tryz.prog 94 3 3 1 := ⟨by kernel_rfl⟩
instance : FieldAt Tryz.prog 94 4 4 1 := ⟨by kernel_rfl⟩
instance : FieldAt Tryz.prog 115 0 0 1 := ⟨by kernel_rfl⟩
instance : FieldAt Tryz.prog 115 1 1 1 := ⟨by kernel_rfl⟩
instance : FieldAt Tryz.prog 115 2 2 1 := ⟨by kernel_rfl⟩
instance : FieldAt Tryz.prog 121 0 0 1 := ⟨by kernel_rfl⟩
instance : FieldAt Tryz.prog 121 1 1 1 := ⟨by kernel_rfl⟩
instance : FieldAt Tryz.prog 121 3 3 1 := ⟨by kernel_rfl⟩
instance : FieldAt Tryz.prog 121 4 4 1 := ⟨by kernel_rfl⟩
instance : FieldAt Tryz.prog 121 5 5 1 := ⟨by kernel_rfl⟩
instance : FieldAt Tryz.prog 125 0 0 1 := ⟨by kernel_rfl⟩
instance : FieldAt Tryz.prog 125 2 2 1 := ⟨by kernel_rfl⟩
instance : FieldAt Tryz.prog 131 0 0 1 := ⟨by kernel_rfl⟩
instance : FieldAt Tryz.prog 131 1 1 1 := ⟨by kernel_rfl⟩
instance : FieldAt Tryz.prog 131 2 2 1 := ⟨by kernel_rfl⟩
instance : FieldAt Tryz.prog 131 3 3 1 := ⟨by kernel_rfl⟩
instance : FieldAt Tryz.prog 134 0 0 1 := ⟨by kernel_rfl⟩
instance : FieldAt Tryz.prog 134 1 1 1 := ⟨by kernel_rfl⟩
instance : FieldAt Tryz.prog 134 2 2 1 := ⟨by kernel_rfl⟩
instance : FieldAt Tryz.prog 138 0 0 1 := ⟨by kernel_rfl⟩
instance : FieldAt Tryz.prog 138 2 2 1 := ⟨by kernel_rfl⟩
instance : FieldAt Tryz.prog 138 3 3 1 := ⟨by kernel_rfl⟩
instance : FieldAt Tryz.prog 142 0 0 1 := ⟨by kernel_rfl⟩
instance : FieldAt Tryz.prog 142 2 2 1 := ⟨by kernel_rfl⟩
instance : FieldAt Tryz.prog 142 3 3 1 := ⟨by kernel_rfl⟩
instance : FieldAt Tryz.prog 154 0 0 1 := ⟨by kernel_rfl⟩
instance : FieldAt Tryz.prog 154 1 1 1 := ⟨by kernel_rfl⟩
instance : FieldAt Tryz.prog 156 0 0 1 := ⟨by kernel_rfl⟩
instance : FieldAt Tryz.prog 156 1 1 1 := ⟨by kernel_rfl⟩
instance : FieldAt Tryz.prog 156 2 2 1 := ⟨by kernel_rfl⟩
instance : FieldAt Tryz.prog 159 0 0 1 := ⟨by kernel_rfl⟩
instance : FieldAt Tryz.prog 159 1 1 1 := ⟨by kernel_rfl⟩
instance : FieldAt Tryz.prog 159 3 3 1 := ⟨by kernel_rfl⟩
instance : FieldAt Tryz.prog 161 0 0 1 := ⟨by kernel_rfl⟩
instance : FieldAt Tryz.prog 161 1 1 1 := ⟨by kernel_rfl⟩
instance : FieldAt Tryz.prog 161 2 2 1 := ⟨by kernel_rfl⟩
instance : FieldAt Tryz.prog 162 0 0 1 := ⟨by kernel_rfl⟩
instance : FieldAt Tryz.prog 164 0 0 1 := ⟨by kernel_rfl⟩
instance : FieldAt Tryz.prog 164 1 1 1 := ⟨by kernel_rfl⟩
instance : FieldAt Tryz.prog 164 2 2 1 := ⟨by kernel_rfl⟩
instance : FieldAt Tryz.prog 166 0 0 1 := ⟨by kernel_rfl⟩
instance : FieldAt Tryz.prog 166 1 1 1 := ⟨by kernel_rfl⟩
instance : FieldAt Tryz.prog 166 2 2 1 := ⟨by kernel_rfl⟩
instance : FieldAt Tryz.prog 167 0 0 1 := ⟨by kernel_rfl⟩
instance : FieldAt Tryz.prog 167 1 1 1 := ⟨by kernel_rfl⟩
instance : FieldAt Tryz.prog 170 0 0 1 := ⟨by kernel_rfl⟩
instance : FieldAt Tryz.prog 170 3 3 1 := ⟨by kernel_rfl⟩
instance : FieldAt Tryz.prog 174 0 0 1 := ⟨by kernel_rfl⟩
instance : FieldAt Tryz.prog 174 1 1 1 := ⟨by kernel_rfl⟩
instance : FieldAt Tryz.prog 174 3 3 1 := ⟨by kernel_rfl⟩
instance : FieldAt Tryz.prog 174 4 4 1 := ⟨by kernel_rfl⟩
instance : FieldAt Tryz.prog 174 5 5 1 := ⟨by kernel_rfl⟩
instance : FieldAt Tryz.prog 174 6 6 1 := ⟨by kernel_rfl⟩
instance : FieldAt Tryz.prog 179 0 0 1 := ⟨by kernel_rfl⟩
instance : FieldAt Tryz.prog 179 1 1 1 := ⟨by kernel_rfl⟩
instance : FieldAt Tryz.prog 179 3 3 1 := ⟨by kernel_rfl⟩
instance : FieldAt Tryz.prog 179 4 4 1 := ⟨by kernel_rfl⟩
instance : FieldAt Tryz.prog 179 5 5 1 := ⟨by kernel_rfl⟩
instance : FieldAt Tryz.prog 179 7 7 1 := ⟨by kernel_rfl⟩
instance : FieldAt Tryz.prog 191 1 1 1 := ⟨by kernel_rfl⟩
instance : FieldAt Tryz.prog 196 0 0 1 := ⟨by kernel_rfl⟩
instance : FieldAt Tryz.prog 196 1 1 1 := ⟨by kernel_rfl⟩
instance : FieldAt Tryz.prog 196 2 2 1 := ⟨by kernel_rfl⟩
instance : FieldAt Tryz.prog 258 0 0 1 := ⟨by kernel_rfl⟩
instance : FieldAt Tryz.prog 258 1 1 1 := ⟨by kernel_rfl⟩
instance : FieldAt Tryz.prog 258 2 2 1 := ⟨by kernel_rfl⟩
instance : FieldAt Tryz.prog 268 0 0 800 := ⟨by kernel_rfl⟩
instance : FieldAt Tryz.prog 268 1 800 1 := ⟨by kernel_rfl⟩
instance : FieldAt Tryz.prog 268 2 801 1 := ⟨by kernel_rfl⟩
instance : FieldAt Tryz.prog 268 3 802 1 := ⟨by kernel_rfl⟩
instance : FieldAt Tryz.prog 268 4 803 1 := ⟨by kernel_rfl⟩
instance : FieldAt Tryz.prog 281 0 0 1 := ⟨by kernel_rfl⟩
instance : FieldAt Tryz.prog 281 1 1 1 := ⟨by kernel_rfl⟩
instance : FieldAt Tryz.prog 281 2 2 1 := ⟨by kernel_rfl⟩
instance : FieldAt Tryz.prog 295 0 0 1 := ⟨by kernel_rfl⟩
instance : FieldAt Tryz.prog 295 1 1 1 := ⟨by kernel_rfl⟩
instance : FieldAt Tryz.prog 304 0 0 1 := ⟨by kernel_rfl⟩
instance : FieldAt Tryz.prog 304 1 1 1 := ⟨by kernel_rfl⟩
instance : SliceT Tryz.prog 22 24 6 := ⟨by kernel_rfl⟩
instance : SliceT Tryz.prog 28 9 1 := ⟨by kernel_rfl⟩
instance : SliceT Tryz.prog 29 31 19 := ⟨by kernel_rfl⟩
instance : SliceT Tryz.prog 34 3 1 := ⟨by kernel_rfl⟩
instance : SliceT Tryz.prog 44 43 13 := ⟨by kernel_rfl⟩
instance : SliceT Tryz.prog 50 48 1 := ⟨by kernel_rfl⟩
instance : SliceT Tryz.prog 118 126 1 := ⟨by kernel_rfl⟩
instance : SliceT Tryz.prog 145 66 1 := ⟨by kernel_rfl⟩
instance : SliceT Tryz.prog 176 72 1 := ⟨by kernel_rfl⟩
instance : SliceT Tryz.prog 180 5 1 := ⟨by kernel_rfl⟩
instance : SliceT Tryz.prog 291 157 1 := ⟨by kernel_rfl⟩
instance : SliceT Tryz.prog 305 304 2 := ⟨by kernel_rfl⟩
instance : Zero Tryz.prog 3 [.int .i64 0] := ⟨by kernel_rfl⟩
instance : Zero Tryz.prog 24 [.int .i64 0, .string ⟨#[]⟩, .string ⟨#[]⟩, .string ⟨#[]⟩, .int .i64 0, .slice none 0 0] := ⟨by kernel_rfl⟩
instance : Zero Tryz.prog 27 [.int .i64 0, .int .i64 0, .int .i64 0, .int .i64 0, .int .i64 0] := ⟨by kernel_rfl⟩
instance : Zero Tryz.prog 31 [.int .i64 0, .int .i64 0, .string ⟨#[]⟩, .string ⟨#[]⟩, .string ⟨#[]⟩, .string ⟨#[]⟩, .bool false, .bool false, .bool false, .int .i64 0, .int .i64 0, .int .i64 0, .int .i64 0, .int .i64 0, .slice none 0 0, .slice none 0 0, .slice none 0 0, .slice none 0 0, .slice none 0 0] := ⟨by kernel_rfl⟩
instance : Zero Tryz.prog 37 [.int .i64 0, .int .i64 0, .int .i64 0, .int .i64 0, .int .i64 0, .int .i64 0] := ⟨by kernel_rfl⟩
instance : Zero Tryz.prog 43 [.int .i64 0, .string ⟨#[]⟩, .string ⟨#[]⟩, .string ⟨#[]⟩, .int .i64 0, .slice none 0 0, .bool false, .bool false, .bool false, .int .i64 0, .int .i64 0, .slice none 0 0, .slice none 0 0] := ⟨by kernel_rfl⟩
instance : Zero Tryz.prog 50 [.slice none 0 0] := ⟨by kernel_rfl⟩
instance : Zero Tryz.prog 56 [.int .i64 0, .int .i64 0, .slice none 0 0] := ⟨by kernel_rfl⟩
instance : Zero Tryz.prog 61 [.int .i64 0, .int .i64 0] := ⟨by kernel_rfl⟩
instance : Zero Tryz.prog 71 [.int .i64 0, .int .i64 0, .int .i64 0, .string ⟨#[]⟩, .string ⟨#[]⟩, .string ⟨#[]⟩, .pointer none, .pointer none, .pointer none] := ⟨by kernel_rfl⟩
instance : Zero Tryz.prog 80 [.pointer none] := ⟨by kernel_rfl⟩
instance : Zero Tryz.prog 83 [.nilIface] := ⟨by kernel_rfl⟩
instance : Zero Tryz.prog 94 [.int .i64 0, .int .i64 0, .int .i64 0, .int .i64 0, .int .i64 0] := ⟨by kernel_rfl⟩
instance : Zero Tryz.prog 115 [.pointer none, .pointer none, .pointer none] := ⟨by kernel_rfl⟩
instance : Zero Tryz.prog 121 [.pointer none, .pointer none, .pointer none, .bool false, .slice none 0 0, .pointer none] := ⟨by kernel_rfl⟩
instance : Zero Tryz.prog 131 [.pointer none, .pointer none, .nilIface, .nilIface] := ⟨by kernel_rfl⟩
instance : Zero Tryz.prog 134 [.pointer none, .pointer none, .nilIface] := ⟨by kernel_rfl⟩
instance : Zero Tryz.prog 142 [.pointer none, .pointer none, .pointer none, .nilIface] := ⟨by kernel_rfl⟩
instance : Zero Tryz.prog 154 [.pointer none, .pointer none] := ⟨by kernel_rfl⟩
instance : Zero Tryz.prog 156 [.pointer none, .pointer none, .nilIface] := ⟨by kernel_rfl⟩
instance : Zero Tryz.prog 159 [.pointer none, .pointer none, .int .i64 0, .float .f64 0] := ⟨by kernel_rfl⟩
instance : Zero Tryz.prog 161 [.pointer none, .pointer none, .string ⟨#[]⟩] := ⟨by kernel_rfl⟩
instance : Zero Tryz.prog 164 [.pointer none, .pointer none, .bool false] := ⟨by kernel_rfl⟩
instance : Zero Tryz.prog 166 [.pointer none, .pointer none, .float .f64 0] := ⟨by kernel_rfl⟩
instance : Zero Tryz.prog 167 [.pointer none, .pointer none] := ⟨by kernel_rfl⟩
instance : Zero Tryz.prog 174 [.pointer none, .pointer none, .pointer none, .nilIface, .nilIface, .pointer none, .bool false] := ⟨by kernel_rfl⟩
instance : Zero Tryz.prog 179 [.pointer none, .pointer none, .pointer none, .bool false, .slice none 0 0, .slice none 0 0, .slice none 0 0, .pointer none] := ⟨by kernel_rfl⟩
instance : Zero Tryz.prog 191 [.string ⟨#[]⟩, .pointer none, .int .i64 0] := ⟨by kernel_rfl⟩
instance : Zero Tryz.prog 196 [.string ⟨#[]⟩, .nilIface, .string ⟨#[]⟩] := ⟨by kernel_rfl⟩
instance : Zero Tryz.prog 281 [.int .u64 0, .int .u64 0, .int .i64 0] := ⟨by kernel_rfl⟩
instance : Conc Tryz.prog 2 := ⟨by kernel_rfl⟩
instance : Conc Tryz.prog 72 := ⟨by kernel_rfl⟩
instance : Conc Tryz.prog 80 := ⟨by kernel_rfl⟩
instance : Conc Tryz.prog 96 := ⟨by kernel_rfl⟩
instance : Conc Tryz.prog 98 := ⟨by kernel_rfl⟩
instance : Conc Tryz.prog 100 := ⟨by kernel_rfl⟩
instance : Conc Tryz.prog 102 := ⟨by kernel_rfl⟩
instance : Conc Tryz.prog 104 := ⟨by kernel_rfl⟩
instance : Conc Tryz.prog 106 := ⟨by kernel_rfl⟩
instance : Conc Tryz.prog 108 := ⟨by kernel_rfl⟩
instance : Conc Tryz.prog 110 := ⟨by kernel_rfl⟩
instance : Conc Tryz.prog 116 := ⟨by kernel_rfl⟩
instance : Conc Tryz.prog 122 := ⟨by kernel_rfl⟩
instance : Conc Tryz.prog 126 := ⟨by kernel_rfl⟩
instance : Conc Tryz.prog 128 := ⟨by kernel_rfl⟩
instance : Conc Tryz.prog 132 := ⟨by kernel_rfl⟩
instance : Conc Tryz.prog 135 := ⟨by kernel_rfl⟩
instance : Conc Tryz.prog 139 := ⟨by kernel_rfl⟩
instance : Conc Tryz.prog 143 := ⟨by kernel_rfl⟩
instance : Conc Tryz.prog 151 := ⟨by kernel_rfl⟩
instance : Conc Tryz.prog 157 := ⟨by kernel_rfl⟩
instance : Conc Tryz.prog 168 := ⟨by kernel_rfl⟩
instance : Conc Tryz.prog 175 := ⟨by kernel_rfl⟩
instance : Conc Tryz.prog 211 := ⟨by kernel_rfl⟩
instance : Conc Tryz.prog 215 := ⟨by kernel_rfl⟩
instance : IntT Tryz.prog 2 .i64 := ⟨by kernel_rfl⟩
instance : IntT Tryz.prog 3 .i64 := ⟨by kernel_rfl⟩
instance : IntT Tryz.prog 5 .u8 := ⟨by kernel_rfl⟩
instance : IntT Tryz.prog 21 .i32 := ⟨by kernel_rfl⟩
instance : IntT Tryz.prog 40 .u64 := ⟨by kernel_rfl⟩
instance : IntT Tryz.prog 211 .u64 := ⟨by kernel_rfl⟩
instance : HasT Tryz.prog 3 := ⟨by kernel_rfl⟩
instance : HasT Tryz.prog 5 := ⟨by kernel_rfl⟩
instance : HasT Tryz.prog 9 := ⟨by kernel_rfl⟩
instance : HasT Tryz.prog 21 := ⟨by kernel_rfl⟩
instance : HasT Tryz.prog 40 := ⟨by kernel_rfl⟩
instance : HasT Tryz.prog 180 := ⟨by kernel_rfl⟩
instance : HasT Tryz.prog 211 := ⟨by kernel_rfl⟩
instance : HasT Tryz.prog 242 := ⟨by kernel_rfl⟩
instance : ArrT Tryz.prog 266 800 5 1 := ⟨arr_of (by kernel_rfl)⟩
instance : ArrT Tryz.prog 296 696 295 2 := ⟨arr_of (by kernel_rfl)⟩
instance : IfaceT Tryz.prog 20 := ⟨iface_of (by kernel_rfl)⟩
instance : IfaceT Tryz.prog 48 := ⟨iface_of (by kernel_rfl)⟩
instance : IfaceT Tryz.prog 75 := ⟨iface_of (by kernel_rfl)⟩
instance : IfaceT Tryz.prog 149 := ⟨iface_of (by kernel_rfl)⟩
instance : IfaceT Tryz.prog 172 := ⟨iface_of (by kernel_rfl)⟩
instance : ZeroV Tryz.prog 96 (.pointer none) := ⟨zeroV_of (by kernel_rfl)⟩
instance : ZeroV Tryz.prog 98 (.pointer none) := ⟨zeroV_of (by kernel_rfl)⟩
instance : ZeroV Tryz.prog 100 (.pointer none) := ⟨zeroV_of (by kernel_rfl)⟩
instance : ZeroV Tryz.prog 102 (.pointer none) := ⟨zeroV_of (by kernel_rfl)⟩
instance : ZeroV Tryz.prog 104 (.pointer none) := ⟨zeroV_of (by kernel_rfl)⟩
instance : ZeroV Tryz.prog 106 (.pointer none) := ⟨zeroV_of (by kernel_rfl)⟩
instance : ZeroV Tryz.prog 108 (.pointer none) := ⟨zeroV_of (by kernel_rfl)⟩
instance : ZeroV Tryz.prog 110 (.pointer none) := ⟨zeroV_of (by kernel_rfl)⟩
instance : ZeroV Tryz.prog 116 (.pointer none) := ⟨zeroV_of (by kernel_rfl)⟩
instance : ZeroV Tryz.prog 122 (.pointer none) := ⟨zeroV_of (by kernel_rfl)⟩
instance : ZeroV Tryz.prog 126 (.pointer none) := ⟨zeroV_of (by kernel_rfl)⟩
instance : ZeroV Tryz.prog 128 (.pointer none) := ⟨zeroV_of (by kernel_rfl)⟩
instance : ZeroV Tryz.prog 132 (.pointer none) := ⟨zeroV_of (by kernel_rfl)⟩
instance : ZeroV Tryz.prog 135 (.pointer none) := ⟨zeroV_of (by kernel_rfl)⟩
instance : ZeroV Tryz.prog 139 (.pointer none) := ⟨zeroV_of (by kernel_rfl)⟩
instance : ZeroV Tryz.prog 143 (.pointer none) := ⟨zeroV_of (by kernel_rfl)⟩
instance : ZeroV Tryz.prog 151 (.pointer none) := ⟨zeroV_of (by kernel_rfl)⟩
instance : ZeroV Tryz.prog 157 (.float .f64 0) := ⟨zeroV_of (by kernel_rfl)⟩
instance : ZeroV Tryz.prog 168 (.pointer none) := ⟨zeroV_of (by kernel_rfl)⟩
instance : ZeroV Tryz.prog 172 (.nilIface) := ⟨zeroV_of (by kernel_rfl)⟩
instance : ZeroV Tryz.prog 175 (.pointer none) := ⟨zeroV_of (by kernel_rfl)⟩
instance : Elt Tryz.prog 22 24 6 88 := ⟨elt_of (by kernel_rfl)⟩
instance : Elt Tryz.prog 28 9 1 16 := ⟨elt_of (by kernel_rfl)⟩
instance : Elt Tryz.prog 29 31 19 248 := ⟨elt_of (by kernel_rfl)⟩
instance : Elt Tryz.prog 34 3 1 8 := ⟨elt_of (by kernel_rfl)⟩
instance : Elt Tryz.prog 44 43 13 160 := ⟨elt_of (by kernel_rfl)⟩
instance : Elt Tryz.prog 50 48 1 16 := ⟨elt_of (by kernel_rfl)⟩
instance : Elt Tryz.prog 118 126 1 8 := ⟨elt_of (by kernel_rfl)⟩
instance : Elt Tryz.prog 145 66 1 8 := ⟨elt_of (by kernel_rfl)⟩
instance : Elt Tryz.prog 176 72 1 8 := ⟨elt_of (by kernel_rfl)⟩
instance : Elt Tryz.prog 180 5 1 1 := ⟨elt_of (by kernel_rfl)⟩
instance : StructT Tryz.prog 24 := ⟨struct_of (by kernel_rfl)⟩
instance : StructT Tryz.prog 27 := ⟨struct_of (by kernel_rfl)⟩
instance : StructT Tryz.prog 31 := ⟨struct_of (by kernel_rfl)⟩
instance : StructT Tryz.prog 37 := ⟨struct_of (by kernel_rfl)⟩
instance : StructT Tryz.prog 43 := ⟨struct_of (by kernel_rfl)⟩
instance : StructT Tryz.prog 56 := ⟨struct_of (by kernel_rfl)⟩
instance : StructT Tryz.prog 61 := ⟨struct_of (by kernel_rfl)⟩
instance : StructT Tryz.prog 71 := ⟨struct_of (by kernel_rfl)⟩
instance : StructT Tryz.prog 80 := ⟨struct_of (by kernel_rfl)⟩
instance : StructT Tryz.prog 83 := ⟨struct_of (by kernel_rfl)⟩
instance : StructT Tryz.prog 94 := ⟨struct_of (by kernel_rfl)⟩
instance : StructT Tryz.prog 115 := ⟨struct_of (by kernel_rfl)⟩
instance : StructT Tryz.prog 121 := ⟨struct_of (by kernel_rfl)⟩
instance : StructT Tryz.prog 131 := ⟨struct_of (by kernel_rfl)⟩
instance : StructT Tryz.prog 134 := ⟨struct_of (by kernel_rfl)⟩
instance : StructT Tryz.prog 142 := ⟨struct_of (by kernel_rfl)⟩
instance : StructT Tryz.prog 154 := ⟨struct_of (by kernel_rfl)⟩
instance : StructT Tryz.prog 156 := ⟨struct_of (by kernel_rfl)⟩
instance : StructT Tryz.prog 159 := ⟨struct_of (by kernel_rfl)⟩
instance : StructT Tryz.prog 161 := ⟨struct_of (by kernel_rfl)⟩
instance : StructT Tryz.prog 164 := ⟨struct_of (by kernel_rfl)⟩
instance : StructT Tryz.prog 166 := ⟨struct_of (by kernel_rfl)⟩
instance : StructT Tryz.prog 167 := ⟨struct_of (by kernel_rfl)⟩
instance : StructT Tryz.prog 174 := ⟨struct_of (by kernel_rfl)⟩
instance : StructT Tryz.prog 179 := ⟨struct_of (by kernel_rfl)⟩
instance : StructT Tryz.prog 191 := ⟨struct_of (by kernel_rfl)⟩
instance : StructT Tryz.prog 196 := ⟨struct_of (by kernel_rfl)⟩
instance : PtrT Tryz.prog 96 := ⟨by kernel_rfl⟩
instance : PtrT Tryz.prog 98 := ⟨by kernel_rfl⟩
instance : PtrT Tryz.prog 100 := ⟨by kernel_rfl⟩
instance : PtrT Tryz.prog 102 := ⟨by kernel_rfl⟩
instance : PtrT Tryz.prog 104 := ⟨by kernel_rfl⟩
instance : PtrT Tryz.prog 106 := ⟨by kernel_rfl⟩
instance : PtrT Tryz.prog 110 := ⟨by kernel_rfl⟩
instance : PtrT Tryz.prog 116 := ⟨by kernel_rfl⟩
instance : PtrT Tryz.prog 126 := ⟨by kernel_rfl⟩
instance : PtrT Tryz.prog 128 := ⟨by kernel_rfl⟩
instance : PtrT Tryz.prog 132 := ⟨by kernel_rfl⟩
instance : PtrT Tryz.prog 139 := ⟨by kernel_rfl⟩
instance : PtrT Tryz.prog 143 := ⟨by kernel_rfl⟩
instance : PtrT Tryz.prog 175 := ⟨by kernel_rfl⟩
instance : Fun Tryz.prog 4 := ⟨Tryz.f4, Tryz.func4, by decide, rfl⟩
instance : Fun Tryz.prog 5 := ⟨Tryz.f5, Tryz.func5, by decide, rfl⟩
instance : Fun Tryz.prog 6 := ⟨Tryz.f6, Tryz.func6, by decide, rfl⟩
instance : Fun Tryz.prog 7 := ⟨Tryz.f7, Tryz.func7, by decide, rfl⟩
instance : Fun Tryz.prog 8 := ⟨Tryz.f8, Tryz.func8, by decide, rfl⟩
instance : Fun Tryz.prog 9 := ⟨Tryz.f9, Tryz.func9, by decide, rfl⟩
instance : Fun Tryz.prog 11 := ⟨Tryz.f11, Tryz.func11, by decide, rfl⟩
instance : Fun Tryz.prog 12 := ⟨Tryz.f12, Tryz.func12, by decide, rfl⟩
instance : Fun Tryz.prog 13 := ⟨Tryz.f13, Tryz.func13, by decide, rfl⟩
instance : Fun Tryz.prog 14 := ⟨Tryz.f14, Tryz.func14, by decide, rfl⟩
instance : Fun Tryz.prog 15 := ⟨Tryz.f15, Tryz.func15, by decide, rfl⟩
instance : Fun Tryz.prog 16 := ⟨Tryz.f16, Tryz.func16, by decide, rfl⟩
instance : Fun Tryz.prog 17 := ⟨Tryz.f17, Tryz.func17, by decide, rfl⟩
instance : Fun Tryz.prog 18 := ⟨Tryz.f18, Tryz.func18, by decide, rfl⟩
instance : Fun Tryz.prog 19 := ⟨Tryz.f19, Tryz.func19, by decide, rfl⟩
instance : Fun Tryz.prog 20 := ⟨Tryz.f20, Tryz.func20, by decide, rfl⟩
instance : Fun Tryz.prog 21 := ⟨Tryz.f21, Tryz.func21, by decide, rfl⟩
instance : Fun Tryz.prog 22 := ⟨Tryz.f22, Tryz.func22, by decide, rfl⟩
instance : Fun Tryz.prog 23 := ⟨Tryz.f23, Tryz.func23, by decide, rfl⟩
instance : Fun Tryz.prog 24 := ⟨Tryz.f24, Tryz.func24, by decide, rfl⟩
instance : Fun Tryz.prog 25 := ⟨Tryz.f25, Tryz.func25, by decide, rfl⟩
instance : Fun Tryz.prog 26 := ⟨Tryz.f26, Tryz.func26, by decide, rfl⟩
instance : Fun Tryz.prog 27 := ⟨Tryz.f27, Tryz.func27, by decide, rfl⟩
instance : Fun Tryz.prog 28 := ⟨Tryz.f28, Tryz.func28, by decide, rfl⟩
instance : Fun Tryz.prog 29 := ⟨Tryz.f29, Tryz.func29, by decide, rfl⟩
instance : Fun Tryz.prog 30 := ⟨Tryz.f30, Tryz.func30, by decide, rfl⟩
instance : Fun Tryz.prog 31 := ⟨Tryz.f31, Tryz.func31, by decide, rfl⟩
instance : Fun Tryz.prog 32 := ⟨Tryz.f32, Tryz.func32, by decide, rfl⟩
instance : Fun Tryz.prog 33 := ⟨Tryz.f33, Tryz.func33, by decide, rfl⟩
instance : Fun Tryz.prog 34 := ⟨Tryz.f34, Tryz.func34, by decide, rfl⟩
instance : Fun Tryz.prog 35 := ⟨Tryz.f35, Tryz.func35, by decide, rfl⟩
instance : Fun Tryz.prog 36 := ⟨Tryz.f36, Tryz.func36, by decide, rfl⟩
instance : Fun Tryz.prog 37 := ⟨Tryz.f37, Tryz.func37, by decide, rfl⟩
instance : Fun Tryz.prog 38 := ⟨Tryz.f38, Tryz.func38, by decide, rfl⟩
instance : Fun Tryz.prog 39 := ⟨Tryz.f39, Tryz.func39, by decide, rfl⟩
instance : Fun Tryz.prog 40 := ⟨Tryz.f40, Tryz.func40, by decide, rfl⟩
instance : Fun Tryz.prog 41 := ⟨Tryz.f41, Tryz.func41, by decide, rfl⟩
instance : Fun Tryz.prog 42 := ⟨Tryz.f42, Tryz.func42, by decide, rfl⟩
instance : Fun Tryz.prog 43 := ⟨Tryz.f43, Tryz.func43, by decide, rfl⟩
instance : Fun Tryz.prog 44 := ⟨Tryz.f44, Tryz.func44, by decide, rfl⟩
instance : Fun Tryz.prog 45 := ⟨Tryz.f45, Tryz.func45, by decide, rfl⟩
instance : Fun Tryz.prog 46 := ⟨Tryz.f46, Tryz.func46, by decide, rfl⟩
instance : Fun Tryz.prog 47 := ⟨Tryz.f47, Tryz.func47, by decide, rfl⟩
instance : Fun Tryz.prog 48 := ⟨Tryz.f48, Tryz.func48, by decide, rfl⟩
instance : Fun Tryz.prog 49 := ⟨Tryz.f49, Tryz.func49, by decide, rfl⟩
instance : Fun Tryz.prog 50 := ⟨Tryz.f50, Tryz.func50, by decide, rfl⟩
instance : Fun Tryz.prog 51 := ⟨Tryz.f51, Tryz.func51, by decide, rfl⟩
instance : Fun Tryz.prog 52 := ⟨Tryz.f52, Tryz.func52, by decide, rfl⟩
instance : Fun Tryz.prog 53 := ⟨Tryz.f53, Tryz.func53, by decide, rfl⟩
instance : Fun Tryz.prog 54 := ⟨Tryz.f54, Tryz.func54, by decide, rfl⟩
instance : Fun Tryz.prog 55 := ⟨Tryz.f55, Tryz.func55, by decide, rfl⟩
instance : Fun Tryz.prog 56 := ⟨Tryz.f56, Tryz.func56, by decide, rfl⟩
instance : Fun Tryz.prog 57 := ⟨Tryz.f57, Tryz.func57, by decide, rfl⟩
instance : Fun Tryz.prog 58 := ⟨Tryz.f58, Tryz.func58, by decide, rfl⟩
instance : Fun Tryz.prog 59 := ⟨Tryz.f59, Tryz.func59, by decide, rfl⟩
instance : Fun Tryz.prog 60 := ⟨Tryz.f60, Tryz.func60, by decide, rfl⟩
instance : Fun Tryz.prog 61 := ⟨Tryz.f61, Tryz.func61, by decide, rfl⟩
instance : Fun Tryz.prog 62 := ⟨Tryz.f62, Tryz.func62, by decide, rfl⟩
instance : Fun Tryz.prog 65 := ⟨Tryz.f65, Tryz.func65, by decide, rfl⟩
instance : Fun Tryz.prog 66 := ⟨Tryz.f66, Tryz.func66, by decide, rfl⟩
instance : Fun Tryz.prog 67 := ⟨Tryz.f67, Tryz.func67, by decide, rfl⟩
instance : Fun Tryz.prog 68 := ⟨Tryz.f68, Tryz.func68, by decide, rfl⟩
instance : Fun Tryz.prog 69 := ⟨Tryz.f69, Tryz.func69, by decide, rfl⟩
instance : Fun Tryz.prog 70 := ⟨Tryz.f70, Tryz.func70, by decide, rfl⟩
instance : Fun Tryz.prog 71 := ⟨Tryz.f71, Tryz.func71, by decide, rfl⟩
instance : Fun Tryz.prog 73 := ⟨Tryz.f73, Tryz.func73, by decide, rfl⟩
instance : Fun Tryz.prog 74 := ⟨Tryz.f74, Tryz.func74, by decide, rfl⟩
instance : Fun Tryz.prog 75 := ⟨Tryz.f75, Tryz.func75, by decide, rfl⟩
instance : Fun Tryz.prog 76 := ⟨Tryz.f76, Tryz.func76, by decide, rfl⟩
instance : Fun Tryz.prog 77 := ⟨Tryz.f77, Tryz.func77, by decide, rfl⟩
instance : Fun Tryz.prog 78 := ⟨Tryz.f78, Tryz.func78, by decide, rfl⟩
instance : Fun Tryz.prog 79 := ⟨Tryz.f79, Tryz.func79, by decide, rfl⟩
instance : Fun Tryz.prog 80 := ⟨Tryz.f80, Tryz.func80, by decide, rfl⟩
instance : Fun Tryz.prog 81 := ⟨Tryz.f81, Tryz.func81, by decide, rfl⟩
instance : Fun Tryz.prog 82 := ⟨Tryz.f82, Tryz.func82, by decide, rfl⟩
instance : Fun Tryz.prog 83 := ⟨Tryz.f83, Tryz.func83, by decide, rfl⟩
instance : Fun Tryz.prog 84 := ⟨Tryz.f84, Tryz.func84, by decide, rfl⟩
instance : Fun Tryz.prog 85 := ⟨Tryz.f85, Tryz.func85, by decide, rfl⟩
instance : Fun Tryz.prog 87 := ⟨Tryz.f87, Tryz.func87, by decide, rfl⟩
instance : Fun Tryz.prog 88 := ⟨Tryz.f88, Tryz.func88, by decide, rfl⟩
instance : Fun Tryz.prog 89 := ⟨Tryz.f89, Tryz.func89, by decide, rfl⟩
instance : Fun Tryz.prog 94 := ⟨Tryz.f94, Tryz.func94, by decide, rfl⟩
instance : Fun Tryz.prog 95 := ⟨Tryz.f95, Tryz.func95, by decide, rfl⟩
instance : Fun Tryz.prog 96 := ⟨Tryz.f96, Tryz.func96, by decide, rfl⟩
instance : Fun Tryz.prog 97 := ⟨Tryz.f97, Tryz.func97, by decide, rfl⟩
instance : Fun Tryz.prog 98 := ⟨Tryz.f98, Tryz.func98, by decide, rfl⟩
instance : Fun Tryz.prog 99 := ⟨Tryz.f99, Tryz.func99, by decide, rfl⟩
instance : Fun Tryz.prog 100 := ⟨Tryz.f100, Tryz.func100, by decide, rfl⟩
instance : Fun Tryz.prog 101 := ⟨Tryz.f101, Tryz.func101, by decide, rfl⟩
instance : Fun Tryz.prog 105 := ⟨Tryz.f105, Tryz.func105, by decide, rfl⟩
instance : Fun Tryz.prog 106 := ⟨Tryz.f106, Tryz.func106, by decide, rfl⟩
instance : Fun Tryz.prog 107 := ⟨Tryz.f107, Tryz.func107, by decide, rfl⟩
instance : Fun Tryz.prog 108 := ⟨Tryz.f108, Tryz.func108, by decide, rfl⟩
instance : Fun Tryz.prog 109 := ⟨Tryz.f109, Tryz.func109, by decide, rfl⟩
instance : Fun Tryz.prog 110 := ⟨Tryz.f110, Tryz.func110, by decide, rfl⟩
instance : Fun Tryz.prog 112 := ⟨Tryz.f112, Tryz.func112, by decide, rfl⟩
instance : Fun Tryz.prog 113 := ⟨Tryz.f113, Tryz.func113, by decide, rfl⟩
instance : Fun Tryz.prog 114 := ⟨Tryz.f114, Tryz.func114, by decide, rfl⟩
instance : Fun Tryz.prog 116 := ⟨Tryz.f116, Tryz.func116, by decide, rfl⟩
instance : Fun Tryz.prog 117 := ⟨Tryz.f117, Tryz.func117, by decide, rfl⟩
instance : Fun Tryz.prog 122 := ⟨Tryz.f122, Tryz.func122, by decide, rfl⟩
instance : Fun Tryz.prog 123 := ⟨Tryz.f123, Tryz.func123, by decide, rfl⟩
instance : Fun Tryz.prog 124 := ⟨Tryz.f124, Tryz.func124, by decide, rfl⟩
instance : Fun Tryz.prog 129 := ⟨Tryz.f129, Tryz.func129, by decide, rfl⟩
instance : Fun Tryz.prog 130 := ⟨Tryz.f130, Tryz.func130, by decide, rfl⟩
instance : Fun Tryz.prog 131 := ⟨Tryz.f131, Tryz.func131, by decide, rfl⟩
instance : Fun Tryz.prog 133 := ⟨Tryz.f133, Tryz.func133, by decide, rfl⟩
instance : Fun Tryz.prog 134 := ⟨Tryz.f134, Tryz.func134, by decide, rfl⟩
instance : Fun Tryz.prog 136 := ⟨Tryz.f136, Tryz.func136, by decide, rfl⟩
instance : Fun Tryz.prog 137 := ⟨Tryz.f137, Tryz.func137, by decide, rfl⟩
instance : Fun Tryz.prog 140 := ⟨Tryz.f140, Tryz.func140, by decide, rfl⟩
instance : Fun Tryz.prog 141 := ⟨Tryz.f141, Tryz.func141, by decide, rfl⟩
instance : Fun Tryz.prog 142 := ⟨Tryz.f142, Tryz.func142, by decide, rfl⟩
instance : Fun Tryz.prog 143 := ⟨Tryz.f143, Tryz.func143, by decide, rfl⟩
instance : Fun Tryz.prog 144 := ⟨Tryz.f144, Tryz.func144, by decide, rfl⟩
instance : Fun Tryz.prog 145 := ⟨Tryz.f145, Tryz.func145, by decide, rfl⟩
instance : Fun Tryz.prog 146 := ⟨Tryz.f146, Tryz.func146, by decide, rfl⟩
instance : Fun Tryz.prog 148 := ⟨Tryz.f148, Tryz.func148, by decide, rfl⟩
instance : Fun Tryz.prog 149 := ⟨Tryz.f149, Tryz.func149, by decide, rfl⟩
instance : Fun Tryz.prog 150 := ⟨Tryz.f150, Tryz.func150, by decide, rfl⟩
instance : Fun Tryz.prog 151 := ⟨Tryz.f151, Tryz.func151, by decide, rfl⟩
instance : Fun Tryz.prog 154 := ⟨Tryz.f154, Tryz.func154, by decide, rfl⟩
instance : Fun Tryz.prog 155 := ⟨Tryz.f155, Tryz.func155, by decide, rfl⟩
instance : Fun Tryz.prog 156 := ⟨Tryz.f156, Tryz.func156, by decide, rfl⟩
instance : Fun Tryz.prog 157 := ⟨Tryz.f157, Tryz.func157, by decide, rfl⟩
instance : Fun Tryz.prog 158 := ⟨Tryz.f158, Tryz.func158, by decide, rfl⟩
instance : Fun Tryz.prog 159 := ⟨Tryz.f159, Tryz.func159, by decide, rfl⟩
end Go.Proofs.YtmalghopogngoaaGreatDoor
set_option linter.unusedVariables false
set_option linter.unusedSimpArgs false
set_option maxRecDepth 4000
namespace Go.Proofs.YtmalghopogngoaaGreatDoor
open Go Go.RowKit MW
theorem c_small (n : Int) (w : World) : Quiet Tryz.prog 34 [.int .i64 n] w fun v => ∃ m : Int, v = .int .i64 m ∧ 0 ≤ m ∧ m ≤ 200 := by
 have hs := St.startNone w
 refine calls_W (args := [_]) Tryz.func34 rfl Tryz.ntmps34 rfl ?_
 refine W_sr ?_
 refine s_pu (p_assign rfl) rfl ?_
 refine WL_th ?_
 refine W_seq ?_
 refine W_sr ?_
 refine s_pu (p_move rfl) rfl ?_
 refine s_pu (p_ltI rfl rfl) rfl ?_
 refine s_pu (p_move rfl) rfl ?_
 refine WL_cutb 3 8 [0] (fun b => b = (decide (n < 0) || decide (200 < n))) ?_ ?_
 ·
  refine s_bool 5 rfl (fun hb5 => ?_) (fun hb5 => ?_)
  ·
   refine g_skip rfl rfl rfl rfl rfl ?_
   refine g_skip rfl rfl rfl rfl rfl ?_
   refine s_pu (p_pickT rfl rfl) rfl ?_
   refine WL_th ⟨rfl, _, ?_, Ext.cons rfl (ext_kc rfl ext_kn)⟩
   rw [hb5]; rfl
  ·
   refine g_take rfl rfl rfl ?_
   refine s_pu (p_move rfl) rfl ?_
   refine g_take rfl rfl rfl ?_
   refine s_pu (p_gtI rfl rfl) rfl ?_
   refine s_pu (p_pickF rfl rfl) rfl ?_
   refine WL_th ⟨rfl, _, ?_, Ext.cons rfl (ext_kc rfl ext_kn)⟩
   rw [hb5]; rfl
 ·
  intro b8 hb8
  refine WL_forget (Ext.cd 0 rfl (Ext.cd 8 rfl (Ext.nil _))) ?_
  show WL _ _ _ [] _ _ _
  refine WL_th ?_
  refine W_if rfl (fun ht8 => ?_) (fun ht8 => ?_)
  ·
   refine W_sr ?_
   refine s_pu (p_assign rfl) rfl ?_
   refine WL_th ?_
   refine W_ret ?_
   refine th_ret ?_
   refine ret_tmp (fn := Tryz.f34) rfl rfl ?_
   exact ⟨⟨_, rfl, by omega, by omega⟩, hs.keep0⟩
  ·
   refine W_skip_th ?_
   refine W_sr ?_
   refine s_pu (p_move rfl) rfl ?_
   refine s_pu (p_assign rfl) rfl ?_
   refine WL_th ?_
   refine W_ret ?_
   refine ret_tmp (fn := Tryz.f34) rfl rfl ?_
   rw [ht8, eq_comm, Bool.or_eq_false_iff, decide_eq_false_iff_not, decide_eq_false_iff_not] at hb8
   exact ⟨⟨_, rfl, by omega, by omega⟩, hs.keep0⟩
theorem c_position (l c o i v : Int) (w : World) : Fresh Tryz.prog 18 [.agg (mkA 5 (cl [.int .i64 l, .int .i64 c, .int .i64 o, .int .i64 i, .int .i64 v]))] w fun r G => ∃ b f, r = .pointer (some ⟨b, 0, none⟩) ∧ G = [pt b 94 5 f] := by
 have hs := St.startNone w
 refine calls_W (args := [_]) Tryz.func18 rfl Tryz.ntmps18 rfl ?_
 refine W_sr ?_
 refine k_box hs rfl rfl ?_
 intro b1 _ hs
 refine s_pu (p_assign rfl) rfl ?_
 refine WL_th ?_
 refine W_seq ?_
 refine h_start (S := fun w => w.heap[b1]? = some (.cells (mkA 5 (cl [.int .i64 l, .int .i64 c, .int .i64 o, .int .i64 i, .int .i64 v])) 27 (0, 0))) (ls := #[false, false, false, false, false, false, false, false, false, false, false, false, false, false, false, false]) (n := 16) (by kernel_rfl) (by kernel_rfl) ?_
 have hs := hs.drew
 refine h_pu 0 rfl (ls' := #[true, false, false, false, false, false, false, false, false, false, false, false, false, false, false, false]) (by kernel_rfl) (fun _ _ _ h => h) rfl (hs.cell .head) (p_field rfl) ?_
 refine h_take 1 rfl (ls' := #[true, true, false, false, false, false, false, false, false, false, false, false, false, false, false, false]) (by kernel_rfl) (fun _ _ _ h => h) rfl (hs.cell .head) (fun w hw => q_ld rfl hw rfl) ?_
 refine h_pu 2 rfl (ls' := #[true, true, true, false, false, false, false, false, false, false, false, false, false, false, false, false]) (by kernel_rfl) (fun _ _ _ h => h) rfl (hs.cell .head) (p_field rfl) ?_
 refine h_take 3 rfl (ls' := #[true, true, true, true, false, false, false, false, false, false, false, false, false, false, false, false]) (by kernel_rfl) (fun _ _ _ h => h) rfl (hs.cell .head) (fun w hw => q_ld rfl hw rfl) ?_
 refine h_pu 6 rfl (ls' := #[true, true, true, true, false, false, true, false, false, false, false, false, false, false, false, false]) (by kernel_rfl) (fun _ _ _ h => h) rfl (hs.cell .head) (p_field rfl) ?_
 refine h_take 7 rfl (ls' := #[true, true, true, true, false, false, true, true, false, false, false, false, false, false, false, false]) (by kernel_rfl) (fun _ _ _ h => h) rfl (hs.cell .head) (fun w hw => q_ld rfl hw rfl) ?_
 refine h_pu 8 rfl (ls' := #[true, true, true, true, false, false, true, true, true, false, false, false, false, false, false, false]) (by kernel_rfl) (fun _ _ _ h => h) rfl (hs.cell .head) (p_field rfl) ?_
 refine h_take 9 rfl (ls' := #[true, true, true, true, false, false, true, true, true, true, false, false, false, false, false, false]) (by kernel_rfl) (fun _ _ _ h => h) rfl (hs.cell .head) (fun w hw => q_ld rfl hw rfl) ?_
 refine h_pu 11 rfl (ls' := #[true, true, true, true, false, false, true, true, true, true, false, true, false, false, false, false]) (by kernel_rfl) (fun _ _ _ h => h) rfl (hs.cell .head) (p_field rfl) ?_
 refine h_take 12 rfl (ls' := #[true, true, true, true, false, false, true, true, true, true, false, true, true, false, false, false]) (by kernel_rfl) (fun _ _ _ h => h) rfl (hs.cell .head) (fun w hw => q_ld rfl hw rfl) ?_
 refine h_one 4 rfl (ls' := #[true, true, true, true, true, false, true, true, true, true, false, true, true, false, false, false]) (by kernel_rfl) ?_
 refine k_quiet (c_small _ _) hs (.cons rfl .nil) rfl ?_
 rintro _ _ ⟨m7, rfl, hm7⟩ hs _
 refine WL_th ⟨(hs.cell .head), ?_⟩
 refine h_pu 5 rfl (ls' := #[true, true, true, true, true, true, true, true, true, true, false, true, true, false, false, false]) (by kernel_rfl) (fun _ _ _ h => h) rfl (hs.cell .head) (p_max rfl rfl) ?_
 refine h_one 10 rfl (ls' := #[true, true, true, true, true, true, true, true, true, true, true, true, true, false, false, false]) (by kernel_rfl) ?_
 refine k_quiet (c_small _ _) hs (.cons rfl .nil) rfl ?_
 rintro _ _ ⟨m13, rfl, hm13⟩ hs _
 refine WL_th ⟨(hs.cell .head), ?_⟩
 refine h_pu 13 rfl (ls' := #[true, true, true, true, true, true, true, true, true, true, true, true, true, true, false, false]) (by kernel_rfl) (fun _ _ _ h => h) rfl (hs.cell .head) (p_st (.one rfl rfl rfl (.one rfl rfl rfl (.one rfl rfl rfl (.one rfl rfl rfl (.one rfl rfl rfl .nil)))))) ?_
 refine h_one 14 rfl (ls' := #[true, true, true, true, true, true, true, true, true, true, true, true, true, true, true, false]) (by kernel_rfl) ?_
 refine k_box hs rfl rfl ?_
 intro b17 _ hs
 refine WL_th ⟨(hs.cell .t1), ?_⟩
 refine h_pu 15 rfl (ls' := #[true, true, true, true, true, true, true, true, true, true, true, true, true, true, true, true]) (by kernel_rfl) (fun _ _ _ h => h) rfl (hs.cell .t1) (p_assign rfl) ?_
 refine h_done (by kernel_rfl) ?_
 show W _ _ _ _ _ _
 refine W_forget (Ext.cd 2 rfl (Ext.nil _)) ?_
 refine W_ret ?_
 refine ret_tmp (fn := Tryz.f18) rfl rfl ?_
 exact (hs.drop .t1).fresh ⟨_, _, rfl, rfl⟩
end Go.Proofs.YtmalghopogngoaaGreatDoor
set_option linter.unusedVariables false
namespace Go.Proofs.YtmalghopogngoaaGreatDoor
open Go Go.RowKit MW
/-- The shape of a tree alone. -/
inductive Sp where
 | mk (kids : List Sp)
/-! ### the nodes as data -/
structure NRec where
 kind : Int
 typ : Int
 value : ByteArray
 text : ByteArray
 origin : ByteArray
 flow : Bool
 pl : Int
 pc : Int
 po : Int
 kids : Value
def nl (n : NRec) : List Value := [.int .i64 n.kind, .int .i64 n.typ, .string n.value, .string n.text, .string n.origin, .string ⟨#[]⟩, .bool n.flow, .bool false, .bool false,
 .int .i64 n.pl, .int .i64 n.pc, .int .i64 n.po, .int .i64 0, .int .i64 0, .slice none 0 0, .slice none 0 0, .slice none 0 0, .slice none 0 0, n.kids]
def nc (n : NRec) : Nat → Value := cl (nl n)
theorem nc_one {n : NRec} (h : n.kids.oneCell' = true) : ∀ i, i < 19 → (nc n i).oneCell' = true := by
 obtain ⟨kind, typ, value, text, origin, flow, pl, pc, po, kv⟩ := n
 exact below_succ (by repeat (first | exact below_zero | refine below_succ ?_ rfl)) h
inductive Rose where
 | mk (n : NRec) (kids : List Rose)
def Rose.n : Rose → NRec | .mk n _ => n
def Rose.kids : Rose → List Rose | .mk _ k => k
mutual
def Rose.size : Rose → Nat | .mk _ ks => 1 + rsizes ks
def rsizes : List Rose → Nat | [] => 0 | t :: ts => t.size + rsizes ts
end
mutual
def Rose.shape : Rose → Sp | .mk _ ks => .mk (rshapes ks)
def rshapes : List Rose → List Sp | [] => [] | t :: ts => t.shape :: rshapes ts
end
/-- The slice v has the nodes ks. -/
def KidsAt (w : World) (v : Value) (ks : List Rose) : Prop :=
 (v = .slice none 0 0 ∧ ks = []) ∨ ∃ b cap cur, v = .slice (some ⟨b, 0, none⟩) ks.length cap ∧ w.heap[b]? = some (.cells cur 31 (0, 0)) ∧ ∀ i k, ks[i]? = some k → ∀ j, j < 19 → cur[i * 19 + j]? = some (nc k.n j)
inductive RepN (w : World) : Rose → Prop where
 | mk {n : NRec} {ks : List Rose} : KidsAt w n.kids ks → (∀ k ∈ ks, RepN w k) → RepN w (.mk n ks)
theorem RepN.kids {w : World} {r : Rose} (h : RepN w r) : KidsAt w r.n.kids r.kids := by cases h with | mk h _ => exact h
theorem RepN.all {w : World} {r : Rose} (h : RepN w r) : ∀ k ∈ r.kids, RepN w k := by cases h with | mk _ h => exact h
/-- All blocks that are there stay as they are. -/
def Sames (w w' : World) : Prop := ∀ (b : Nat) (o : Obj), w.heap[b]? = some o → w'.heap[b]? = some o
theorem MW.Keep.sames {w w' : World} (h : Keep (fun _ => False) w w') : Sames w w' := fun b o hb => (h.block b (Array.getElem?_eq_some_iff.1 hb).1 id).trans hb
theorem KidsAt.keep {w w' : World} {v : Value} {ks : List Rose} (h : KidsAt w v ks) (hk : Sames w w') : KidsAt w' v ks := by
 rcases h with h | ⟨b, cap, cur, h1, h2, h3⟩
 ·
  exact .inl h
 ·
  exact .inr ⟨b, cap, cur, h1, hk _ _ h2, h3⟩
theorem KidsAt.one {w : World} {v : Value} {ks : List Rose} (h : KidsAt w v ks) : v.oneCell' = true := by
 rcases h with ⟨rfl, _⟩ | ⟨b, cap, cur, rfl, _⟩ <;> rfl
theorem RepN.one {w : World} {r : Rose} (h : RepN w r) : r.n.kids.oneCell' = true := h.kids.one
theorem RepN.keep {w w' : World} {r : Rose} (h : RepN w r) (hk : Sames w w') : RepN w' r := by
 induction h with
 | mk h1 _ ih => exact .mk (h1.keep hk) ih
theorem cell_same {w w' : World} (hk : Sames w w') {a : Addr} {v : Value} (h : w.cell? a = some v) : w'.cell? a = some v := by
 unfold World.cell? at h ⊢
 cases hb : w.heap[a.block]? with
 | none => rw [hb] at h; simp at h
 | some o => rw [hk _ _ hb]; rw [hb] at h; exact h
theorem cell_old {w w' : World} {G : List Assn} (hs : St w (fun _ => False) w' G) {b o n : Nat} {g : Nat → Value} (h : ∀ j, j < n → w.cell? ⟨b, o + j, none⟩ = some (g j)) : ∀ j, j < n → w'.cell? ⟨b, o + j, none⟩ = some (g j) :=
 fun j hj => cell_same hs.keep.sames (h j hj)
theorem KidsAt.out {w : World} {v : Value} {ks : List Rose} (h : KidsAt w v ks) : ∃ ad cap, v = .slice ad ks.length cap ∧ ∀ (i : Nat) (k : Rose), ks[i]? = some k → ∃ b, ad = some ⟨b, 0, none⟩ ∧ ∀ j, j < 19 → w.cell? ⟨b, 0 + i * 19 + j, none⟩ = some (nc k.n j) := by
 rcases h with ⟨rfl, rfl⟩ | ⟨b, cap, cur, h1, h2, h3⟩
 ·
  exact ⟨none, 0, rfl, fun i k h => by simp at h⟩
 ·
  exact ⟨_, cap, h1, fun i k hk => ⟨b, rfl, fun j hj => by rw [Nat.zero_add]; simp [World.cell?, h2, h3 i k hk j hj]⟩⟩
/-- What is known of the tables of the packages, and stays. -/
structure Glob where
 p : World → Prop
 keep : ∀ w w', p w → Sames w w' → p w'
/-- The words for true and false. -/
def BoolText (s : ByteArray) : Prop := s = "true".toUTF8 ∨ s = "True".toUTF8 ∨ s = "TRUE".toUTF8 ∨ s = "false".toUTF8 ∨ s = "False".toUTF8 ∨ s = "FALSE".toUTF8
/-- The nodes that spec.NodeOf makes; T: what is known of the texts of numbers. -/
inductive Good (T : ByteArray → Prop) : Rose → Prop where
 | leaf {n : NRec} : (n.kind = 2 ∨ n.kind = 6 ∨ n.kind = 7 ∨ n.kind = 8) → Good T (.mk n [])
 | bool {n : NRec} : n.kind = 3 → BoolText n.text → Good T (.mk n [])
 | num {n : NRec} : (n.kind = 4 ∨ n.kind = 5) → T n.text → Good T (.mk n [])
 | lit {n : NRec} {k : NRec} : n.kind = 10 → Good T (.mk n [.mk k []])
 | map {n : NRec} {ks : List Rose} : n.kind = 11 → (∀ k ∈ ks, k.n.kind = 13) → (∀ k ∈ ks, Good T k) → Good T (.mk n ks)
 | pair {n : NRec} {a b : Rose} : n.kind = 13 → 2 ≤ a.n.kind → a.n.kind ≤ 8 → Good T a → Good T b → Good T (.mk n [a, b])
 | seq {n : NRec} {ks : List Rose} : n.kind = 14 → (∀ k ∈ ks, Good T k) → Good T (.mk n ks)
 | anchor {n : NRec} {a b : Rose} : n.kind = 16 → Good T a → Good T b → Good T (.mk n [a, b])
 | alias {n : NRec} {a : Rose} : n.kind = 17 → Good T a → Good T (.mk n [a])
 | tag {n : NRec} {a : Rose} : n.kind = 19 → Good T a → Good T (.mk n [a])
/-! ### the nodes of the package -/
inductive AT where
 | mk (T b : Nat) (kids : List AT)
def AT.T : AT → Nat | .mk T _ _ => T
def AT.b : AT → Nat | .mk _ b _ => b
def AT.kids : AT → List AT | .mk _ _ k => k
def AT.val (t : AT) : Value := .iface t.T (.pointer (some ⟨t.b, 0, none⟩))
def AT.ptr (t : AT) : Value := .pointer (some ⟨t.b, 0, none⟩)
mutual
def AT.size : AT → Nat | .mk _ _ ks => 1 + asizes ks
def asizes : List AT → Nat | [] => 0 | t :: ts => t.size + asizes ts
end
mutual
def AT.shape : AT → Sp | .mk _ _ ks => .mk (ashapes ks)
def ashapes : List AT → List Sp | [] => [] | t :: ts => t.shape :: ashapes ts
end
mutual
def AT.pre : AT → List AT | .mk T b ks => .mk T b ks :: pres ks
def pres : List AT → List AT | [] => [] | t :: ts => t.pre ++ pres ts
end
def ids (l : List AT) : List Nat := l.map AT.b
def leafT (T : Nat) : Bool := T == 96 || T == 98 || T == 100 || T == 102 || T == 104 || T == 106 || T == 143
/-- The elements of a slice of one cell each; S: the blocks that are looked at. -/
def ElemsAt (w : World) (S : Foot) (v : Value) (l : List Value) : Prop :=
 (v = .slice none 0 0 ∧ l = []) ∨ ∃ b cap T cur, v = .slice (some ⟨b, 0, none⟩) l.length cap ∧ S b ∧ w.heap[b]? = some (.cells cur T (0, 0)) ∧ ∀ i, i < l.length → cur[i]? = some (l[i]?.getD undef)
/-- Where a node of a type keeps those below it; n: how many cells it has. -/
inductive Below1 (w : World) (S : Foot) (f : Nat → Value) : Nat → Nat → List AT → Prop where
 | leaf {T n : Nat} : leafT T = true → 2 ≤ n → Below1 w S f T n []
 | lit {k : AT} : k.T = 106 → f 2 = k.ptr → Below1 w S f 110 3 [k]
 | map {v : Value} {ks : List AT} : f 4 = v → ElemsAt w S v (ks.map AT.ptr) → (∀ k ∈ ks, k.T = 126) → Below1 w S f 116 6 ks
 | pair {a b : AT} : f 3 = a.val → f 4 = b.val → Below1 w S f 126 7 [a, b]
 | seq {v : Value} {ks : List AT} : f 4 = v → ElemsAt w S v (ks.map AT.val) → Below1 w S f 175 8 ks
 | anchor {a b : AT} : f 2 = a.val → f 3 = b.val → Below1 w S f 128 4 [a, b]
 | alias {a : AT} : f 2 = a.val → Below1 w S f 132 3 [a]
 | tag {a : AT} : f 3 = a.val → Below1 w S f 139 4 [a]
/-- What a node's own blocks hold. -/
def NodeAt (w : World) (S : Foot) (t : AT) : Prop := ∃ n T' f bb g, S t.b ∧ S bb ∧ w.heap[t.b]? = some (.cells (mkA n f) T' (0, 0)) ∧ f 0 = .pointer (some ⟨bb, 0, none⟩) ∧ w.heap[bb]? = some (.cells (mkA 3 g) 191 (0, 0)) ∧ g 1 = .pointer none ∧ Below1 w S f t.T n t.kids
inductive RepA (w : World) (S : Foot) : AT → Prop where
 | mk {t : AT} : NodeAt w S t → (∀ k ∈ t.kids, RepA w S k) → RepA w S t
theorem RepA.node {w : World} {S : Foot} {t : AT} (h : RepA w S t) : NodeAt w S t := by cases h with | mk h _ => exact h
theorem RepA.all {w : World} {S : Foot} {t : AT} (h : RepA w S t) : ∀ k ∈ t.kids, RepA w S k := by cases h with | mk _ h => exact h
/-- The blocks of S are as they were. -/
def SameOn (S : Foot) (w w' : World) : Prop := ∀ (b : Nat) (o : Obj), S b → w.heap[b]? = some o → w'.heap[b]? = some o
theorem Sames.on {w w' : World} (h : Sames w w') (S : Foot) : SameOn S w w' := fun b o _ => h b o
theorem ElemsAt.keep {w w' : World} {S S' : Foot} {v : Value} {l : List Value} (h : ElemsAt w S v l) (hk : SameOn S w w') (hS : ∀ b, S b → S' b) : ElemsAt w' S' v l := by
 rcases h with h | ⟨b, cap, T, cur, h1, h0, h2, h3⟩
 ·
  exact .inl h
 ·
  exact .inr ⟨b, cap, T, cur, h1, hS _ h0, hk _ _ h0 h2, h3⟩
theorem Below1.keep {w w' : World} {S S' : Foot} {f : Nat → Value} {T n : Nat} {ks : List AT} (h : Below1 w S f T n ks) (hk : SameOn S w w') (hS : ∀ b, S b → S' b) : Below1 w' S' f T n ks := by
 cases h with
 | leaf h h2 => exact .leaf h h2
 | lit h1 h2 => exact .lit h1 h2
 | map h1 h2 h3 => exact .map h1 (h2.keep hk hS) h3
 | pair h1 h2 => exact .pair h1 h2
 | seq h1 h2 => exact .seq h1 (h2.keep hk hS)
 | anchor h1 h2 => exact .anchor h1 h2
 | alias h => exact .alias h
 | tag h => exact .tag h
theorem NodeAt.keep {w w' : World} {S S' : Foot} {t : AT} (h : NodeAt w S t) (hk : SameOn S w w') (hS : ∀ b, S b → S' b) : NodeAt w' S' t := by
 obtain ⟨n, T', f, bb, g, hb, hbb, h1, h2, h3, h4, h5⟩ := h
 exact ⟨n, T', f, bb, g, hS _ hb, hS _ hbb, hk _ _ hb h1, h2, hk _ _ hbb h3, h4, h5.keep hk hS⟩
theorem RepA.keep {w w' : World} {S S' : Foot} {t : AT} (h : RepA w S t) (hk : SameOn S w w') (hS : ∀ b, S b → S' b) : RepA w' S' t := by
 induction h with
 | mk h1 _ ih => exact .mk (h1.keep hk hS) ih
theorem SameOn.refl (S : Foot) (w : World) : SameOn S w w := fun _ _ _ h => h
/-- Some trees in memory, no two nodes the same. -/
def astL (ts : List AT) : Assn where
 on w S := (∀ t ∈ ts, RepA w S t) ∧ (ids (pres ts)).Nodup ∧ ∀ b ∈ ids (pres ts), S b
 loc := fun w w' S h hk => ⟨fun t ht => (h.1 t ht).keep (fun b o hb ho => (hk b hb).trans ho) (fun _ => id), h.2⟩
theorem astL_nil (w : World) (S : Foot) : (astL []).on w S := ⟨fun _ h => absurd h (List.not_mem_nil), by simp [pres, ids], fun _ h => by simp [pres, ids] at h⟩
theorem pres_app (a b : List AT) : pres (a ++ b) = pres a ++ pres b := by
 induction a with
 | nil => rfl
 | cons t a ih => simp [pres, ih]
theorem ids_app (a b : List AT) : ids (a ++ b) = ids a ++ ids b := by simp [ids]
theorem pres_one (t : AT) : pres [t] = t.pre := by simp [pres]
theorem astL_app {a b : List AT} (w : World) (S1 S2 : Foot) (h1 : (astL a).on w S1) (h2 : (astL b).on w S2) (hd : ∀ x, S1 x → ¬ S2 x) : (astL (a ++ b)).on w (fun x => S1 x ∨ S2 x) := by
 refine ⟨fun t ht => ?_, ?_, ?_⟩
 ·
  rcases List.mem_append.1 ht with h | h
  ·
   exact (h1.1 t h).keep (.refl _ _) (fun _ => .inl)
  ·
   exact (h2.1 t h).keep (.refl _ _) (fun _ => .inr)
 ·
  rw [pres_app, ids_app, List.nodup_append]
  exact ⟨h1.2.1, h2.2.1, fun x hx y hy e => hd x (h1.2.2 x hx) (e ▸ h2.2.2 y hy)⟩
 ·
  intro x hx
  rw [pres_app, ids_app, List.mem_append] at hx
  exact hx.imp (h1.2.2 x) (h2.2.2 x)
/-- A node over those below it. -/
theorem seal_node {A : Assn} {T b : Nat} {kids : List AT} (hb : ∀ w S, A.on w S → S b) (hR : ∀ w S, A.on w S → NodeAt w S (.mk T b kids)) (w : World) (S1 S2 : Foot) (h1 : A.on w S1) (h2 : (astL kids).on w S2) (hd : ∀ x, S1 x → ¬ S2 x) :
  (astL [.mk T b kids]).on w (fun x => S1 x ∨ S2 x) := by
 have hpre : pres [AT.mk T b kids] = AT.mk T b kids :: pres kids := by rw [pres_one]; simp [AT.pre]
 refine ⟨fun t ht => ?_, ?_, ?_⟩
 ·
  rw [List.mem_singleton] at ht
  subst ht
  exact .mk ((hR w S1 h1).keep (.refl _ _) (fun _ => .inl)) fun k hk => (h2.1 k hk).keep (.refl _ _) (fun _ => .inr)
 ·
  rw [hpre]
  show (b :: ids (pres kids)).Nodup
  rw [List.nodup_cons]
  exact ⟨fun hmem => hd b (hb w S1 h1) (h2.2.2 b hmem), h2.2.1⟩
 ·
  intro x hx
  rw [hpre] at hx
  rcases List.mem_cons.1 hx with rfl | hx
  ·
   exact .inl (hb w S1 h1)
  ·
   exact .inr (h2.2.2 x hx)
end Go.Proofs.YtmalghopogngoaaGreatDoor
set_option linter.unusedVariables false
set_option linter.unusedSimpArgs false
set_option maxRecDepth 4000
namespace Go.Proofs.YtmalghopogngoaaGreatDoor
open Go Go.RowKit MW
/-- A node that was made anew, with what its cells are. -/
def NewNode (T n : Nat) (C : (Nat → Value) → Prop) (v : Value) (G : List Assn) : Prop :=
 ∃ b bb f g, v = .pointer (some ⟨b, 0, none⟩) ∧ G = [pt b T n f, pt bb 191 3 g] ∧ f 0 = .pointer (some ⟨bb, 0, none⟩) ∧ g 1 = .pointer none ∧ C f
/-- The cells of a token. -/
def tokC (typ : Int) (v o : ByteArray) (pb : Nat) : Nat → Value := cl [.int .i64 typ, .int .i64 0, .int .i64 0, .string v, .string o, .string ⟨#[]⟩, .pointer (some ⟨pb, 0, none⟩), .pointer none, .pointer none]
theorem MW.St.old {w0 w : World} {G : List Assn} (hs : St w0 (fun _ => False) w G) {b : Nat} {o : Obj} (h : w0.heap[b]? = some o) : w.heap[b]? = some o :=
 (hs.keep.block b (Array.getElem?_eq_some_iff.1 h).1 id).trans h
/-- What a text as a number is; the strconv part shows it. -/
def ToNumberOK (Γ : Glob) (T : ByteArray → Prop) : Prop := ∀ s w, Γ.p w → T s → Fresh Tryz.prog 66 [.string s] w fun v G =>
 ∃ ad, v = .pointer ad ∧ (ad = none → G = []) ∧ ∀ a, ad = some a → ∃ nb k U u tx, a = ⟨nb, 0, none⟩ ∧ G = [pt nb 196 3 (cl [.string k, .iface U u, .string tx])] ∧ ((U = 157 ∧ ∃ n, u = .float .f64 n) ∨ Nat.beq U 157 = false)
def ParseBoolOK : Prop := ∀ s w, BoolText s → Quiet Tryz.prog 65 [.string s] w fun v => ∃ b u, v = .tuple #[.bool b, u]
theorem c_Null (tb : Nat) (w : World) : Fresh Tryz.prog 54 [.pointer (some ⟨tb, 0, none⟩)] w (NewNode 154 2 (fun f => True)) := by
 have hs := St.startNone w
 refine calls_W (args := [_]) Tryz.func54 rfl Tryz.ntmps54 rfl ?_
 refine W_sr ?_
 refine s_pu (p_assign rfl) rfl ?_
 refine WL_th ?_
 refine W_sr ?_
 refine s_pu (p_st .nil) rfl ?_
 refine k_box hs rfl rfl ?_
 intro b4 _ hs
 refine s_pu (p_move rfl) rfl ?_
 refine s_pu (p_st (.one rfl rfl rfl (.one rfl rfl rfl .nil))) rfl ?_
 refine k_box hs rfl rfl ?_
 intro b7 _ hs
 refine s_pu (p_assign rfl) rfl ?_
 refine WL_th ?_
 refine W_ret ?_
 refine ret_tmp (fn := Tryz.f54) rfl rfl ?_
 exact hs.fresh ⟨_, _, _, _, rfl, rfl, rfl, rfl, trivial⟩
theorem c_Nan (tb : Nat) (w : World) : Fresh Tryz.prog 40 [.pointer (some ⟨tb, 0, none⟩)] w (NewNode 167 2 (fun f => True)) := by
 have hs := St.startNone w
 refine calls_W (args := [_]) Tryz.func40 rfl Tryz.ntmps40 rfl ?_
 refine W_sr ?_
 refine s_pu (p_assign rfl) rfl ?_
 refine WL_th ?_
 refine W_sr ?_
 refine s_pu (p_st .nil) rfl ?_
 refine k_box hs rfl rfl ?_
 intro b4 _ hs
 refine s_pu (p_move rfl) rfl ?_
 refine s_pu (p_st (.one rfl rfl rfl (.one rfl rfl rfl .nil))) rfl ?_
 refine k_box hs rfl rfl ?_
 intro b7 _ hs
 refine s_pu (p_assign rfl) rfl ?_
 refine WL_th ?_
 refine W_ret ?_
 refine ret_tmp (fn := Tryz.f40) rfl rfl ?_
 exact hs.fresh ⟨_, _, _, _, rfl, rfl, rfl, rfl, trivial⟩
theorem c_Literal (tb : Nat) (w : World) : Fresh Tryz.prog 43 [.pointer (some ⟨tb, 0, none⟩)] w (NewNode 115 3 (fun f => True)) := by
 have hs := St.startNone w
 refine calls_W (args := [_]) Tryz.func43 rfl Tryz.ntmps43 rfl ?_
 refine W_sr ?_
 refine s_pu (p_assign rfl) rfl ?_
 refine WL_th ?_
 refine W_sr ?_
 refine s_pu (p_st .nil) rfl ?_
 refine k_box hs rfl rfl ?_
 intro b4 _ hs
 refine s_pu (p_move rfl) rfl ?_
 refine s_pu (p_st (.one rfl rfl rfl (.one rfl rfl rfl .nil))) rfl ?_
 refine k_box hs rfl rfl ?_
 intro b7 _ hs
 refine s_pu (p_assign rfl) rfl ?_
 refine WL_th ?_
 refine W_ret ?_
 refine ret_tmp (fn := Tryz.f43) rfl rfl ?_
 exact hs.fresh ⟨_, _, _, _, rfl, rfl, rfl, rfl, trivial⟩
theorem c_Alias (tb : Nat) (w : World) : Fresh Tryz.prog 51 [.pointer (some ⟨tb, 0, none⟩)] w (NewNode 134 3 (fun f => True)) := by
 have hs := St.startNone w
 refine calls_W (args := [_]) Tryz.func51 rfl Tryz.ntmps51 rfl ?_
 refine W_sr ?_
 refine s_pu (p_assign rfl) rfl ?_
 refine WL_th ?_
 refine W_sr ?_
 refine s_pu (p_st .nil) rfl ?_
 refine k_box hs rfl rfl ?_
 intro b4 _ hs
 refine s_pu (p_move rfl) rfl ?_
 refine s_pu (p_st (.one rfl rfl rfl (.one rfl rfl rfl .nil))) rfl ?_
 refine k_box hs rfl rfl ?_
 intro b7 _ hs
 refine s_pu (p_assign rfl) rfl ?_
 refine WL_th ?_
 refine W_ret ?_
 refine ret_tmp (fn := Tryz.f51) rfl rfl ?_
 exact hs.fresh ⟨_, _, _, _, rfl, rfl, rfl, rfl, trivial⟩
theorem c_Anchor (tb : Nat) (w : World) : Fresh Tryz.prog 50 [.pointer (some ⟨tb, 0, none⟩)] w (NewNode 131 4 (fun f => True)) := by
 have hs := St.startNone w
 refine calls_W (args := [_]) Tryz.func50 rfl Tryz.ntmps50 rfl ?_
 refine W_sr ?_
 refine s_pu (p_assign rfl) rfl ?_
 refine WL_th ?_
 refine W_sr ?_
 refine s_pu (p_st .nil) rfl ?_
 refine k_box hs rfl rfl ?_
 intro b4 _ hs
 refine s_pu (p_move rfl) rfl ?_
 refine s_pu (p_st (.one rfl rfl rfl (.one rfl rfl rfl .nil))) rfl ?_
 refine k_box hs rfl rfl ?_
 intro b7 _ hs
 refine s_pu (p_assign rfl) rfl ?_
 refine WL_th ?_
 refine W_ret ?_
 refine ret_tmp (fn := Tryz.f50) rfl rfl ?_
 exact hs.fresh ⟨_, _, _, _, rfl, rfl, rfl, rfl, trivial⟩
theorem c_Tag (tb : Nat) (w : World) : Fresh Tryz.prog 53 [.pointer (some ⟨tb, 0, none⟩)] w (NewNode 142 4 (fun f => True)) := by
 have hs := St.startNone w
 refine calls_W (args := [_]) Tryz.func53 rfl Tryz.ntmps53 rfl ?_
 refine W_sr ?_
 refine s_pu (p_assign rfl) rfl ?_
 refine WL_th ?_
 refine W_sr ?_
 refine s_pu (p_st .nil) rfl ?_
 refine k_box hs rfl rfl ?_
 intro b4 _ hs
 refine s_pu (p_move rfl) rfl ?_
 refine s_pu (p_st (.one rfl rfl rfl (.one rfl rfl rfl .nil))) rfl ?_
 refine k_box hs rfl rfl ?_
 intro b7 _ hs
 refine s_pu (p_assign rfl) rfl ?_
 refine WL_th ?_
 refine W_ret ?_
 refine ret_tmp (fn := Tryz.f53) rfl rfl ?_
 exact hs.fresh ⟨_, _, _, _, rfl, rfl, rfl, rfl, trivial⟩
theorem c_MappingValue (tb kT kb vT vb : Nat) (w : World) : Fresh Tryz.prog 70 [.pointer (some ⟨tb, 0, none⟩), .iface kT (.pointer (some ⟨kb, 0, none⟩)), .iface vT (.pointer (some ⟨vb, 0, none⟩))] w (NewNode 174 7 (fun f => f 3 = .iface kT (.pointer (some ⟨kb, 0, none⟩)) ∧ f 4 = .iface vT (.pointer (some ⟨vb, 0, none⟩)))) := by
 have hs := St.startNone w
 refine calls_W (args := [_, _, _]) Tryz.func70 rfl Tryz.ntmps70 rfl ?_
 refine W_sr ?_
 refine s_pu (p_assign rfl) rfl ?_
 refine WL_th ?_
 refine W_sr ?_
 refine s_pu (p_st .nil) rfl ?_
 refine k_box hs rfl rfl ?_
 intro b8 _ hs
 refine s_pu (p_move rfl) rfl ?_
 refine s_pu (p_move rfl) rfl ?_
 refine s_pu (p_move rfl) rfl ?_
 refine s_pu (p_st (.one rfl rfl rfl (.one rfl rfl rfl (.one rfl rfl rfl (.one rfl rfl rfl .nil))))) rfl ?_
 refine k_box hs rfl rfl ?_
 intro b13 _ hs
 refine s_pu (p_assign rfl) rfl ?_
 refine WL_th ?_
 refine W_ret ?_
 refine ret_tmp (fn := Tryz.f70) rfl rfl ?_
 exact hs.fresh ⟨_, _, _, _, rfl, rfl, rfl, rfl, rfl, rfl⟩
theorem c_String (tb : Nat) (typ : Int) (s o : ByteArray) (pb : Nat) (w : World) (ht : w.heap[tb]? = some (.cells (mkA 9 (tokC typ s o pb)) 71 (0, 0))) : Fresh Tryz.prog 68 [.pointer (some ⟨tb, 0, none⟩)] w (NewNode 161 3 (fun f => True)) := by
 have hs := St.startNone w
 refine calls_W (args := [_]) Tryz.func68 rfl Tryz.ntmps68 rfl ?_
 refine W_sr ?_
 refine s_pu (p_assign rfl) rfl ?_
 refine WL_th ?_
 refine W_sr ?_
 refine s_pu (p_st .nil) rfl ?_
 refine k_box hs rfl rfl ?_
 intro b4 _ hs
 refine s_pu (p_move rfl) rfl ?_
 refine s_pu (p_move rfl) rfl ?_
 refine s_pu (p_nilCheck rfl) rfl ?_
 refine s_pu (p_field rfl) rfl ?_
 refine kq_ld (hs.old ht) rfl rfl rfl ?_
 refine s_pu (p_st (.one rfl rfl rfl (.one rfl rfl rfl (.one rfl rfl rfl .nil)))) rfl ?_
 refine k_box hs rfl rfl ?_
 intro b11 _ hs
 refine s_pu (p_assign rfl) rfl ?_
 refine WL_th ?_
 refine W_ret ?_
 refine ret_tmp (fn := Tryz.f68) rfl rfl ?_
 exact hs.fresh ⟨_, _, _, _, rfl, rfl, rfl, rfl, trivial⟩
theorem c_Bool (hpb : ParseBoolOK) (tb : Nat) (typ : Int) (s o : ByteArray) (pb : Nat) (hB : BoolText s) (w : World) (ht : w.heap[tb]? = some (.cells (mkA 9 (tokC typ s o pb)) 71 (0, 0))) : Fresh Tryz.prog 36 [.pointer (some ⟨tb, 0, none⟩)] w (NewNode 164 3 (fun f => True)) := by
 have hs := St.startNone w
 refine calls_W (args := [_]) Tryz.func36 rfl Tryz.ntmps36 rfl ?_
 refine W_sr ?_
 refine s_pu (p_assign rfl) rfl ?_
 refine WL_th ?_
 refine W_sr ?_
 refine s_pu (p_move rfl) rfl ?_
 refine s_pu (p_nilCheck rfl) rfl ?_
 refine s_pu (p_field rfl) rfl ?_
 refine kq_ld (hs.old ht) rfl rfl rfl ?_
 refine k_quiet (hpb _ _ hB) hs (.cons rfl .nil) rfl ?_
 rintro _ _ ⟨bv, u, rfl⟩ hs _
 refine s_pu (p_move rfl) rfl ?_
 refine s_pu (p_extract (vs := [_, _]) rfl rfl) rfl ?_
 refine s_pu (p_extract (vs := [_, _]) rfl rfl) rfl ?_
 refine s_pu (p_assign rfl) rfl ?_
 refine s_pu (p_assign rfl) rfl ?_
 refine WL_th ?_
 refine W_sr ?_
 refine s_pu (p_st .nil) rfl ?_
 refine k_box hs rfl rfl ?_
 intro b14 _ hs
 refine s_pu (p_move rfl) rfl ?_
 refine s_pu (p_move rfl) rfl ?_
 refine s_pu (p_st (.one rfl rfl rfl (.one rfl rfl rfl (.one rfl rfl rfl .nil)))) rfl ?_
 refine k_box hs rfl rfl ?_
 intro b18 _ hs
 refine s_pu (p_assign rfl) rfl ?_
 refine WL_th ?_
 refine W_forget (Ext.cd 2 rfl (Ext.nil _)) ?_
 refine W_ret ?_
 refine ret_tmp (fn := Tryz.f36) rfl rfl ?_
 exact hs.fresh ⟨_, _, _, _, rfl, rfl, rfl, rfl, trivial⟩
theorem c_Integer {Γ : Glob} {T : ByteArray → Prop} (hn : ToNumberOK Γ T) (tb : Nat) (typ : Int) (s o : ByteArray) (pb : Nat) (hT : T s) (w : World) (hG : Γ.p w) (ht : w.heap[tb]? = some (.cells (mkA 9 (tokC typ s o pb)) 71 (0, 0))) : Fresh Tryz.prog 37 [.pointer (some ⟨tb, 0, none⟩)] w (NewNode 156 3 (fun f => True)) := by
 have hs := St.startNone w
 refine calls_W (args := [_]) Tryz.func37 rfl Tryz.ntmps37 rfl ?_
 refine W_sr ?_
 refine s_pu (p_assign rfl) rfl ?_
 refine WL_th ?_
 refine W_sr ?_
 refine s_pu (p_assign rfl) rfl ?_
 refine WL_th ?_
 refine W_seq ?_
 refine W_sr ?_
 refine s_pu (p_move rfl) rfl ?_
 refine s_pu (p_nilCheck rfl) rfl ?_
 refine s_pu (p_field rfl) rfl ?_
 refine kq_ld (hs.old ht) rfl rfl rfl ?_
 refine k_fresh (hn _ _ (Γ.keep _ _ hG hs.keep.sames) hT) hs (.cons rfl .nil) rfl ?_
 rintro _ _ G1 ⟨ad, rfl, h2, h1⟩ hs _
 refine s_pu (p_assign rfl) rfl ?_
 refine WL_th ?_
 refine W_sr ?_
 refine s_pu (p_move rfl) rfl ?_
 refine s_pu (p_neN (by kernel_rfl) rfl) rfl ?_
 refine WL_th ?_
 refine W_if rfl (fun h11 => ?_) (fun h11 => ?_)
 ·
  obtain ⟨a, rfl⟩ := Option.isSome_iff_exists.1 h11
  obtain ⟨nb, k, U, u, tx, rfl, rfl, hU⟩ := h1 a rfl
  refine W_reg ?_
  refine s_pu (p_move rfl) rfl ?_
  refine s_pu (p_nilCheck rfl) rfl ?_
  refine s_pu (p_field rfl) rfl ?_
  refine k_ld hs rfl .head rfl rfl ?_
  refine s_pu (p_assign rfl) rfl ?_
  refine WL_th ?_
  refine W_forget (Ext.cd 0 rfl (Ext.cd 3 rfl (Ext.nil _))) ?_
  refine W_sr ?_
  refine s_pu (p_st .nil) rfl ?_
  refine k_box hs rfl rfl ?_
  intro b17 _ hs
  refine s_pu (p_move rfl) rfl ?_
  refine s_pu (p_move rfl) rfl ?_
  refine s_pu (p_st (.one rfl rfl rfl (.one rfl rfl rfl (.one rfl rfl rfl .nil)))) rfl ?_
  refine k_box hs rfl rfl ?_
  intro b21 _ hs
  refine s_pu (p_assign rfl) rfl ?_
  refine WL_th ?_
  refine W_ret ?_
  refine ret_tmp (fn := Tryz.f37) rfl rfl ?_
  exact hs.first2.fresh ⟨_, _, _, _, rfl, rfl, rfl, rfl, trivial⟩
 ·
  have had : ad = none := by simpa using h11
  subst had
  obtain rfl := h2 rfl
  refine W_skip_th ?_
  refine W_sr ?_
  refine s_pu (p_st .nil) rfl ?_
  refine k_box hs rfl rfl ?_
  intro b17 _ hs
  refine s_pu (p_move rfl) rfl ?_
  refine s_pu (p_move rfl) rfl ?_
  refine s_pu (p_st (.one rfl rfl rfl (.one rfl rfl rfl (.one rfl rfl rfl .nil)))) rfl ?_
  refine k_box hs rfl rfl ?_
  intro b21 _ hs
  refine s_pu (p_assign rfl) rfl ?_
  refine WL_th ?_
  refine W_forget (Ext.cd 2 rfl (Ext.nil _)) ?_
  refine W_ret ?_
  refine ret_tmp (fn := Tryz.f37) rfl rfl ?_
  exact hs.first2.fresh ⟨_, _, _, _, rfl, rfl, rfl, rfl, trivial⟩
theorem c_Float {Γ : Glob} {T : ByteArray → Prop} (hn : ToNumberOK Γ T) (tb : Nat) (typ : Int) (s o : ByteArray) (pb : Nat) (hT : T s) (w : World) (hG : Γ.p w) (ht : w.heap[tb]? = some (.cells (mkA 9 (tokC typ s o pb)) 71 (0, 0))) : Fresh Tryz.prog 38 [.pointer (some ⟨tb, 0, none⟩)] w (NewNode 159 4 (fun f => True)) := by
 have hs := St.startNone w
 refine calls_W (args := [_]) Tryz.func38 rfl Tryz.ntmps38 rfl ?_
 refine W_sr ?_
 refine s_pu (p_assign rfl) rfl ?_
 refine WL_th ?_
 refine W_sr ?_
 refine s_pu (p_assign rfl) rfl ?_
 refine WL_th ?_
 refine W_seq ?_
 refine W_sr ?_
 refine s_pu (p_move rfl) rfl ?_
 refine s_pu (p_nilCheck rfl) rfl ?_
 refine s_pu (p_field rfl) rfl ?_
 refine kq_ld (hs.old ht) rfl rfl rfl ?_
 refine k_fresh (hn _ _ (Γ.keep _ _ hG hs.keep.sames) hT) hs (.cons rfl .nil) rfl ?_
 rintro _ _ G1 ⟨ad, rfl, h2, h1⟩ hs _
 refine s_pu (p_assign rfl) rfl ?_
 refine WL_th ?_
 refine W_sr ?_
 refine s_pu (p_move rfl) rfl ?_
 refine s_pu (p_neN (by kernel_rfl) rfl) rfl ?_
 refine s_pu (p_move rfl) rfl ?_
 refine WL_cutb 6 20 [0, 3, 4] (fun b => b = true → ad.isSome = true) ?_ ?_
 ·
  refine s_bool 14 rfl (fun hb14 => ?_) (fun hb14 => ?_)
  ·
   obtain ⟨a, rfl⟩ := Option.isSome_iff_exists.1 hb14
   obtain ⟨nb, k, U, u, tx, rfl, rfl, hU⟩ := h1 a rfl
   refine g_take rfl rfl rfl ?_
   refine s_pu (p_move rfl) rfl ?_
   refine g_take rfl rfl rfl ?_
   refine s_pu (p_nilCheck rfl) rfl ?_
   refine g_take rfl rfl rfl ?_
   refine s_pu (p_field rfl) rfl ?_
   refine g_take rfl rfl rfl ?_
   refine k_ld hs rfl .head rfl rfl ?_
   refine g_take rfl rfl rfl ?_
   refine s_pu (p_eqS rfl rfl) rfl ?_
   refine s_pu (p_pickT rfl rfl) rfl ?_
   refine WL_th ⟨rfl, _, ?_, Ext.cons rfl (ext_kc rfl (ext_kc rfl (ext_kc rfl ext_kn)))⟩
   exact fun _ => rfl
  ·
   refine g_skip rfl rfl rfl rfl rfl ?_
   refine g_skip rfl rfl rfl rfl rfl ?_
   refine g_skip rfl rfl rfl rfl rfl ?_
   refine g_skip rfl rfl rfl rfl rfl ?_
   refine g_skip rfl rfl rfl rfl rfl ?_
   refine s_pu (p_pickF rfl rfl) rfl ?_
   refine WL_th ⟨rfl, _, ?_, Ext.cons rfl (ext_kc rfl (ext_kc rfl (ext_kc rfl ext_kn)))⟩
   exact fun h => by cases h
 ·
  intro b20 hb20
  refine WL_forget (Ext.cd 0 rfl (Ext.cd 3 rfl (Ext.cd 4 rfl (Ext.cd 20 rfl (Ext.nil _))))) ?_
  show WL _ _ _ [] _ _ _
  refine WL_th ?_
  refine W_if rfl (fun h20 => ?_) (fun h20 => ?_)
  ·
   obtain ⟨a, rfl⟩ := Option.isSome_iff_exists.1 (hb20 h20)
   obtain ⟨nb, k, U, u, tx, rfl, rfl, hU⟩ := h1 a rfl
   refine W_sr ?_
   refine s_pu (p_move rfl) rfl ?_
   refine s_pu (p_nilCheck rfl) rfl ?_
   refine s_pu (p_field rfl) rfl ?_
   refine k_ld hs rfl .head rfl rfl ?_
   refine k_taF rfl hU rfl ?_
   intro n b26
   refine s_pu (p_move rfl) rfl ?_
   refine s_pu (p_extract (vs := [_, _]) rfl rfl) rfl ?_
   refine s_pu (p_extract (vs := [_, _]) rfl rfl) rfl ?_
   refine s_pu (p_assign rfl) rfl ?_
   refine s_pu (p_assign rfl) rfl ?_
   refine WL_th ?_
   refine W_sr ?_
   refine s_pu (p_move rfl) rfl ?_
   refine WL_th ?_
   refine W_forget (Ext.cd 0 rfl (Ext.cd 3 rfl (Ext.cd 5 rfl (Ext.cd 29 rfl (Ext.nil _))))) ?_
   refine W_if rfl (fun ht29 => ?_) (fun ht29 => ?_)
   ·
    refine W_reg ?_
    refine s_pu (p_move rfl) rfl ?_
    refine s_pu (p_assign rfl) rfl ?_
    refine WL_th ?_
    refine W_sr ?_
    refine s_pu (p_st .nil) rfl ?_
    refine k_box hs rfl rfl ?_
    intro b32 _ hs
    refine s_pu (p_move rfl) rfl ?_
    refine s_pu (p_move rfl) rfl ?_
    refine s_pu (p_st (.one rfl rfl rfl (.one rfl rfl rfl (.one rfl rfl rfl .nil)))) rfl ?_
    refine k_box hs rfl rfl ?_
    intro b36 _ hs
    refine s_pu (p_assign rfl) rfl ?_
    refine WL_th ?_
    refine W_forget (Ext.cd 2 rfl (Ext.nil _)) ?_
    refine W_ret ?_
    refine ret_tmp (fn := Tryz.f38) rfl rfl ?_
    exact hs.first2.fresh ⟨_, _, _, _, rfl, rfl, rfl, rfl, trivial⟩
   ·
    refine W_skip_th ?_
    refine W_sr ?_
    refine s_pu (p_st .nil) rfl ?_
    refine k_box hs rfl rfl ?_
    intro b32 _ hs
    refine s_pu (p_move rfl) rfl ?_
    refine s_pu (p_move rfl) rfl ?_
    refine s_pu (p_st (.one rfl rfl rfl (.one rfl rfl rfl (.one rfl rfl rfl .nil)))) rfl ?_
    refine k_box hs rfl rfl ?_
    intro b36 _ hs
    refine s_pu (p_assign rfl) rfl ?_
    refine WL_th ?_
    refine W_ret ?_
    refine ret_tmp (fn := Tryz.f38) rfl rfl ?_
    exact hs.first2.fresh ⟨_, _, _, _, rfl, rfl, rfl, rfl, trivial⟩
  ·
   refine W_skip_th ?_
   refine W_sr ?_
   refine s_pu (p_st .nil) rfl ?_
   refine k_box hs rfl rfl ?_
   intro b32 _ hs
   refine s_pu (p_move rfl) rfl ?_
   refine s_pu (p_move rfl) rfl ?_
   refine s_pu (p_st (.one rfl rfl rfl (.one rfl rfl rfl (.one rfl rfl rfl .nil)))) rfl ?_
   refine k_box hs rfl rfl ?_
   intro b36 _ hs
   refine s_pu (p_assign rfl) rfl ?_
   refine WL_th ?_
   refine W_ret ?_
   refine ret_tmp (fn := Tryz.f38) rfl rfl ?_
   exact hs.first2.fresh ⟨_, _, _, _, rfl, rfl, rfl, rfl, trivial⟩
theorem p_frombits86 {N : Nat} {e : Env} {x : Operand} {n : Int} (hx : evo e x = some (.int .u64 n)) : Pu Tryz.prog N e (.call ⟨.value (.func 86), [x].toArray, #[211]⟩) (.float .f64 n.toNat) :=
 p_ext (ef := Extern.MathFloatBits.float64frombits) Tryz.func86 (by kernel_rfl) (by kernel_rfl) (by kernel_rfl) (by kernel_rfl) (.cons hx .nil) (fun w => rfl)
theorem c_Inf (n : Int) (w : World) : Quiet Tryz.prog 67 [.int .i64 n] w fun v => ∃ b, v = .float .f64 b := by
 have hs := St.startNone w
 refine calls_W (args := [_]) Tryz.func67 rfl Tryz.ntmps67 rfl ?_
 refine W_sr ?_
 refine s_pu (p_assign rfl) rfl ?_
 refine WL_th ?_
 refine W_sr ?_
 refine s_pu (p_assign rfl) rfl ?_
 refine WL_th ?_
 refine W_seq ?_
 refine W_sr ?_
 refine s_pu (p_move rfl) rfl ?_
 refine s_pu (p_geI rfl rfl) rfl ?_
 refine WL_th ?_
 refine W_if rfl (fun ht5 => ?_) (fun ht5 => ?_)
 ·
  refine W_reg ?_
  refine s_pu (p_assign rfl) rfl ?_
  refine WL_th ?_
  refine W_sr ?_
  refine s_pu (p_move rfl) rfl ?_
  refine s_pu (p_frombits86 rfl) rfl ?_
  refine s_pu (p_assign rfl) rfl ?_
  refine WL_th ?_
  refine W_ret ?_
  refine ret_tmp (fn := Tryz.f67) rfl rfl ?_
  exact ⟨⟨_, rfl⟩, hs.keep0⟩
 ·
  refine W_reg ?_
  refine s_pu (p_assign rfl) rfl ?_
  refine WL_th ?_
  refine W_sr ?_
  refine s_pu (p_move rfl) rfl ?_
  refine s_pu (p_frombits86 rfl) rfl ?_
  refine s_pu (p_assign rfl) rfl ?_
  refine WL_th ?_
  refine W_ret ?_
  refine ret_tmp (fn := Tryz.f67) rfl rfl ?_
  exact ⟨⟨_, rfl⟩, hs.keep0⟩
theorem c_Infinity (tb : Nat) (typ : Int) (s o : ByteArray) (pb : Nat) (w : World) (ht : w.heap[tb]? = some (.cells (mkA 9 (tokC typ s o pb)) 71 (0, 0))) : Fresh Tryz.prog 39 [.pointer (some ⟨tb, 0, none⟩)] w (NewNode 166 3 (fun f => True)) := by
 have hs := St.startNone w
 refine calls_W (args := [_]) Tryz.func39 rfl Tryz.ntmps39 rfl ?_
 refine W_sr ?_
 refine s_pu (p_assign rfl) rfl ?_
 refine WL_th ?_
 refine W_sr ?_
 refine s_pu (p_st .nil) rfl ?_
 refine k_box hs rfl rfl ?_
 intro b5 _ hs
 refine s_pu (p_move rfl) rfl ?_
 refine s_pu (p_st (.one rfl rfl rfl (.one rfl rfl rfl .nil))) rfl ?_
 refine k_box hs rfl rfl ?_
 intro b8 _ hs
 refine s_pu (p_assign rfl) rfl ?_
 refine WL_th ?_
 refine W_seq ?_
 refine W_sr ?_
 refine s_pu (p_move rfl) rfl ?_
 refine s_pu (p_nilCheck rfl) rfl ?_
 refine s_pu (p_field rfl) rfl ?_
 refine kq_ld (hs.old ht) rfl rfl rfl ?_
 refine WL_th ?_
 refine W_block ?_
 refine W_seq ?_
 refine W_sr ?_
 refine s_pu (p_eqS rfl rfl) rfl ?_
 refine s_pu (p_assign rfl) rfl ?_
 refine WL_th ?_
 refine W_forget (Ext.cd 3 rfl (Ext.cd 12 rfl (Ext.cd 13 rfl (Ext.nil _)))) ?_
 refine W_bool 13 rfl (fun ht13 => ?_) (fun ht13 => ?_)
 ·
  refine W_true rfl ?_
  refine W_skip_th ?_
  refine W_bool 13 rfl (fun ht13 => ?_) (fun ht13 => ?_)
  ·
   refine W_true rfl ?_
   refine W_reg ?_
   refine s_pu (p_move rfl) rfl ?_
   refine k_quiet (c_Inf _ _) hs (.cons rfl .nil) rfl ?_
   rintro _ _ ⟨fb, rfl⟩ hs _
   refine s_pu (p_nilCheck rfl) rfl ?_
   refine s_pu (p_field rfl) rfl ?_
   refine k_st hs rfl rfl .head rfl rfl ?_
   intro _ hs
   refine WL_nil ?_
   show W _ _ _ _ _ _
   refine W_sr ?_
   refine s_pu (p_move rfl) rfl ?_
   refine s_pu (p_assign rfl) rfl ?_
   refine WL_th ?_
   refine W_ret ?_
   refine ret_tmp (fn := Tryz.f39) rfl rfl ?_
   exact hs.first2.fresh ⟨_, _, _, _, rfl, rfl, rfl, rfl, trivial⟩
  ·
   refine W_false rfl ?_
   refine W_seq ?_
   refine W_sr ?_
   refine s_pu (p_eqS rfl rfl) rfl ?_
   refine s_pu (p_assign rfl) rfl ?_
   refine WL_th ?_
   refine W_bool 21 rfl (fun ht21 => ?_) (fun ht21 => ?_)
   ·
    refine W_true rfl ?_
    refine W_skip_th ?_
    refine W_bool 21 rfl (fun ht21 => ?_) (fun ht21 => ?_)
    ·
     refine W_true rfl ?_
     refine W_reg ?_
     refine s_pu (p_move rfl) rfl ?_
     refine k_quiet (c_Inf _ _) hs (.cons rfl .nil) rfl ?_
     rintro _ _ ⟨fb, rfl⟩ hs _
     refine s_pu (p_nilCheck rfl) rfl ?_
     refine s_pu (p_field rfl) rfl ?_
     refine k_st hs rfl rfl .head rfl rfl ?_
     intro _ hs
     refine WL_nil ?_
     show W _ _ _ _ _ _
     refine W_sr ?_
     refine s_pu (p_move rfl) rfl ?_
     refine s_pu (p_assign rfl) rfl ?_
     refine WL_th ?_
     refine W_ret ?_
     refine ret_tmp (fn := Tryz.f39) rfl rfl ?_
     exact hs.first2.fresh ⟨_, _, _, _, rfl, rfl, rfl, rfl, trivial⟩
    ·
     refine W_false rfl ?_
     refine W_skip ?_
     show W _ _ _ _ _ _
     refine W_sr ?_
     refine s_pu (p_move rfl) rfl ?_
     refine s_pu (p_assign rfl) rfl ?_
     refine WL_th ?_
     refine W_ret ?_
     refine ret_tmp (fn := Tryz.f39) rfl rfl ?_
     exact hs.first2.fresh ⟨_, _, _, _, rfl, rfl, rfl, rfl, trivial⟩
   ·
    refine W_false rfl ?_
    refine W_sr ?_
    refine s_pu (p_eqS rfl rfl) rfl ?_
    refine s_pu (p_assign rfl) rfl ?_
    refine WL_th ?_
    refine W_bool 21 rfl (fun ht21 => ?_) (fun ht21 => ?_)
    ·
     refine W_true rfl ?_
     refine W_skip_th ?_
     refine W_bool 21 rfl (fun ht21 => ?_) (fun ht21 => ?_)
     ·
      refine W_true rfl ?_
      refine W_reg ?_
      refine s_pu (p_move rfl) rfl ?_
      refine k_quiet (c_Inf _ _) hs (.cons rfl .nil) rfl ?_
      rintro _ _ ⟨fb, rfl⟩ hs _
      refine s_pu (p_nilCheck rfl) rfl ?_
      refine s_pu (p_field rfl) rfl ?_
      refine k_st hs rfl rfl .head rfl rfl ?_
      intro _ hs
      refine WL_nil ?_
      show W _ _ _ _ _ _
      refine W_sr ?_
      refine s_pu (p_move rfl) rfl ?_
      refine s_pu (p_assign rfl) rfl ?_
      refine WL_th ?_
      refine W_forget (Ext.cd 2 rfl (Ext.nil _)) ?_
      refine W_ret ?_
      refine ret_tmp (fn := Tryz.f39) rfl rfl ?_
      exact hs.first2.fresh ⟨_, _, _, _, rfl, rfl, rfl, rfl, trivial⟩
     ·
      refine W_false rfl ?_
      refine W_skip ?_
      show W _ _ _ _ _ _
      refine W_sr ?_
      refine s_pu (p_move rfl) rfl ?_
      refine s_pu (p_assign rfl) rfl ?_
      refine WL_th ?_
      refine W_ret ?_
      refine ret_tmp (fn := Tryz.f39) rfl rfl ?_
      exact hs.first2.fresh ⟨_, _, _, _, rfl, rfl, rfl, rfl, trivial⟩
    ·
     refine W_false rfl ?_
     refine W_reg ?_
     refine s_pu (p_eqS rfl rfl) rfl ?_
     refine s_pu (p_assign rfl) rfl ?_
     refine WL_th ?_
     refine W_bool 21 rfl (fun ht21 => ?_) (fun ht21 => ?_)
     ·
      refine W_true rfl ?_
      refine W_reg ?_
      refine s_pu (p_move rfl) rfl ?_
      refine k_quiet (c_Inf _ _) hs (.cons rfl .nil) rfl ?_
      rintro _ _ ⟨fb, rfl⟩ hs _
      refine s_pu (p_nilCheck rfl) rfl ?_
      refine s_pu (p_field rfl) rfl ?_
      refine k_st hs rfl rfl .head rfl rfl ?_
      intro _ hs
      refine WL_nil ?_
      show W _ _ _ _ _ _
      refine W_sr ?_
      refine s_pu (p_move rfl) rfl ?_
      refine s_pu (p_assign rfl) rfl ?_
      refine WL_th ?_
      refine W_forget (Ext.cd 2 rfl (Ext.nil _)) ?_
      refine W_ret ?_
      refine ret_tmp (fn := Tryz.f39) rfl rfl ?_
      exact hs.first2.fresh ⟨_, _, _, _, rfl, rfl, rfl, rfl, trivial⟩
     ·
      refine W_false rfl ?_
      refine W_skip ?_
      show W _ _ _ _ _ _
      refine W_sr ?_
      refine s_pu (p_move rfl) rfl ?_
      refine s_pu (p_assign rfl) rfl ?_
      refine WL_th ?_
      refine W_ret ?_
      refine ret_tmp (fn := Tryz.f39) rfl rfl ?_
      exact hs.first2.fresh ⟨_, _, _, _, rfl, rfl, rfl, rfl, trivial⟩
 ·
  refine W_false rfl ?_
  refine W_sr ?_
  refine s_pu (p_eqS rfl rfl) rfl ?_
  refine s_pu (p_assign rfl) rfl ?_
  refine WL_th ?_
  refine W_bool 13 rfl (fun ht13 => ?_) (fun ht13 => ?_)
  ·
   refine W_true rfl ?_
   refine W_skip_th ?_
   refine W_bool 13 rfl (fun ht13 => ?_) (fun ht13 => ?_)
   ·
    refine W_true rfl ?_
    refine W_reg ?_
    refine s_pu (p_move rfl) rfl ?_
    refine k_quiet (c_Inf _ _) hs (.cons rfl .nil) rfl ?_
    rintro _ _ ⟨fb, rfl⟩ hs _
    refine s_pu (p_nilCheck rfl) rfl ?_
    refine s_pu (p_field rfl) rfl ?_
    refine k_st hs rfl rfl .head rfl rfl ?_
    intro _ hs
    refine WL_nil ?_
    show W _ _ _ _ _ _
    refine W_sr ?_
    refine s_pu (p_move rfl) rfl ?_
    refine s_pu (p_assign rfl) rfl ?_
    refine WL_th ?_
    refine W_ret ?_
    refine ret_tmp (fn := Tryz.f39) rfl rfl ?_
    exact hs.first2.fresh ⟨_, _, _, _, rfl, rfl, rfl, rfl, trivial⟩
   ·
    refine W_false rfl ?_
    refine W_seq ?_
    refine W_sr ?_
    refine s_pu (p_eqS rfl rfl) rfl ?_
    refine s_pu (p_assign rfl) rfl ?_
    refine WL_th ?_
    refine W_bool 21 rfl (fun ht21 => ?_) (fun ht21 => ?_)
    ·
     refine W_true rfl ?_
     refine W_skip_th ?_
     refine W_bool 21 rfl (fun ht21 => ?_) (fun ht21 => ?_)
     ·
      refine W_true rfl ?_
      refine W_reg ?_
      refine s_pu (p_move rfl) rfl ?_
      refine k_quiet (c_Inf _ _) hs (.cons rfl .nil) rfl ?_
      rintro _ _ ⟨fb, rfl⟩ hs _
      refine s_pu (p_nilCheck rfl) rfl ?_
      refine s_pu (p_field rfl) rfl ?_
      refine k_st hs rfl rfl .head rfl rfl ?_
      intro _ hs
      refine WL_nil ?_
      show W _ _ _ _ _ _
      refine W_sr ?_
      refine s_pu (p_move rfl) rfl ?_
      refine s_pu (p_assign rfl) rfl ?_
      refine WL_th ?_
      refine W_forget (Ext.cd 2 rfl (Ext.nil _)) ?_
      refine W_ret ?_
      refine ret_tmp (fn := Tryz.f39) rfl rfl ?_
      exact hs.first2.fresh ⟨_, _, _, _, rfl, rfl, rfl, rfl, trivial⟩
     ·
      refine W_false rfl ?_
      refine W_skip ?_
      show W _ _ _ _ _ _
      refine W_sr ?_
      refine s_pu (p_move rfl) rfl ?_
      refine s_pu (p_assign rfl) rfl ?_
      refine WL_th ?_
      refine W_ret ?_
      refine ret_tmp (fn := Tryz.f39) rfl rfl ?_
      exact hs.first2.fresh ⟨_, _, _, _, rfl, rfl, rfl, rfl, trivial⟩
    ·
     refine W_false rfl ?_
     refine W_sr ?_
     refine s_pu (p_eqS rfl rfl) rfl ?_
     refine s_pu (p_assign rfl) rfl ?_
     refine WL_th ?_
     refine W_bool 21 rfl (fun ht21 => ?_) (fun ht21 => ?_)
     ·
      refine W_true rfl ?_
      refine W_skip_th ?_
      refine W_bool 21 rfl (fun ht21 => ?_) (fun ht21 => ?_)
      ·
       refine W_true rfl ?_
       refine W_reg ?_
       refine s_pu (p_move rfl) rfl ?_
       refine k_quiet (c_Inf _ _) hs (.cons rfl .nil) rfl ?_
       rintro _ _ ⟨fb, rfl⟩ hs _
       refine s_pu (p_nilCheck rfl) rfl ?_
       refine s_pu (p_field rfl) rfl ?_
       refine k_st hs rfl rfl .head rfl rfl ?_
       intro _ hs
       refine WL_nil ?_
       show W _ _ _ _ _ _
       refine W_sr ?_
       refine s_pu (p_move rfl) rfl ?_
       refine s_pu (p_assign rfl) rfl ?_
       refine WL_th ?_
       refine W_forget (Ext.cd 2 rfl (Ext.nil _)) ?_
       refine W_ret ?_
       refine ret_tmp (fn := Tryz.f39) rfl rfl ?_
       exact hs.first2.fresh ⟨_, _, _, _, rfl, rfl, rfl, rfl, trivial⟩
      ·
       refine W_false rfl ?_
       refine W_skip ?_
       show W _ _ _ _ _ _
       refine W_sr ?_
       refine s_pu (p_move rfl) rfl ?_
       refine s_pu (p_assign rfl) rfl ?_
       refine WL_th ?_
       refine W_ret ?_
       refine ret_tmp (fn := Tryz.f39) rfl rfl ?_
       exact hs.first2.fresh ⟨_, _, _, _, rfl, rfl, rfl, rfl, trivial⟩
     ·
      refine W_false rfl ?_
      refine W_reg ?_
      refine s_pu (p_eqS rfl rfl) rfl ?_
      refine s_pu (p_assign rfl) rfl ?_
      refine WL_th ?_
      refine W_bool 21 rfl (fun ht21 => ?_) (fun ht21 => ?_)
      ·
       refine W_true rfl ?_
       refine W_reg ?_
       refine s_pu (p_move rfl) rfl ?_
       refine k_quiet (c_Inf _ _) hs (.cons rfl .nil) rfl ?_
       rintro _ _ ⟨fb, rfl⟩ hs _
       refine s_pu (p_nilCheck rfl) rfl ?_
       refine s_pu (p_field rfl) rfl ?_
       refine k_st hs rfl rfl .head rfl rfl ?_
       intro _ hs
       refine WL_nil ?_
       show W _ _ _ _ _ _
       refine W_forget (Ext.cd 3 rfl (Ext.nil _)) ?_
       refine W_sr ?_
       refine s_pu (p_move rfl) rfl ?_
       refine s_pu (p_assign rfl) rfl ?_
       refine WL_th ?_
       refine W_ret ?_
       refine ret_tmp (fn := Tryz.f39) rfl rfl ?_
       exact hs.first2.fresh ⟨_, _, _, _, rfl, rfl, rfl, rfl, trivial⟩
      ·
       refine W_false rfl ?_
       refine W_skip ?_
       show W _ _ _ _ _ _
       refine W_sr ?_
       refine s_pu (p_move rfl) rfl ?_
       refine s_pu (p_assign rfl) rfl ?_
       refine WL_th ?_
       refine W_ret ?_
       refine ret_tmp (fn := Tryz.f39) rfl rfl ?_
       exact hs.first2.fresh ⟨_, _, _, _, rfl, rfl, rfl, rfl, trivial⟩
  ·
   refine W_false rfl ?_
   refine W_reg ?_
   refine s_pu (p_eqS rfl rfl) rfl ?_
   refine s_pu (p_assign rfl) rfl ?_
   refine WL_th ?_
   refine W_bool 13 rfl (fun ht13 => ?_) (fun ht13 => ?_)
   ·
    refine W_true rfl ?_
    refine W_reg ?_
    refine s_pu (p_move rfl) rfl ?_
    refine k_quiet (c_Inf _ _) hs (.cons rfl .nil) rfl ?_
    rintro _ _ ⟨fb, rfl⟩ hs _
    refine s_pu (p_nilCheck rfl) rfl ?_
    refine s_pu (p_field rfl) rfl ?_
    refine k_st hs rfl rfl .head rfl rfl ?_
    intro _ hs
    refine WL_nil ?_
    show W _ _ _ _ _ _
    refine W_sr ?_
    refine s_pu (p_move rfl) rfl ?_
    refine s_pu (p_assign rfl) rfl ?_
    refine WL_th ?_
    refine W_ret ?_
    refine ret_tmp (fn := Tryz.f39) rfl rfl ?_
    exact hs.first2.fresh ⟨_, _, _, _, rfl, rfl, rfl, rfl, trivial⟩
   ·
    refine W_false rfl ?_
    refine W_seq ?_
    refine W_sr ?_
    refine s_pu (p_eqS rfl rfl) rfl ?_
    refine s_pu (p_assign rfl) rfl ?_
    refine WL_th ?_
    refine W_bool 21 rfl (fun ht21 => ?_) (fun ht21 => ?_)
    ·
     refine W_true rfl ?_
     refine W_skip_th ?_
     refine W_bool 21 rfl (fun ht21 => ?_) (fun ht21 => ?_)
     ·
      refine W_true rfl ?_
      refine W_reg ?_
      refine s_pu (p_move rfl) rfl ?_
      refine k_quiet (c_Inf _ _) hs (.cons rfl .nil) rfl ?_
      rintro _ _ ⟨fb, rfl⟩ hs _
      refine s_pu (p_nilCheck rfl) rfl ?_
      refine s_pu (p_field rfl) rfl ?_
      refine k_st hs rfl rfl .head rfl rfl ?_
      intro _ hs
      refine WL_nil ?_
      show W _ _ _ _ _ _
      refine W_sr ?_
      refine s_pu (p_move rfl) rfl ?_
      refine s_pu (p_assign rfl) rfl ?_
      refine WL_th ?_
      refine W_forget (Ext.cd 2 rfl (Ext.nil _)) ?_
      refine W_ret ?_
      refine ret_tmp (fn := Tryz.f39) rfl rfl ?_
      exact hs.first2.fresh ⟨_, _, _, _, rfl, rfl, rfl, rfl, trivial⟩
     ·
      refine W_false rfl ?_
      refine W_skip ?_
      show W _ _ _ _ _ _
      refine W_sr ?_
      refine s_pu (p_move rfl) rfl ?_
      refine s_pu (p_assign rfl) rfl ?_
      refine WL_th ?_
      refine W_ret ?_
      refine ret_tmp (fn := Tryz.f39) rfl rfl ?_
      exact hs.first2.fresh ⟨_, _, _, _, rfl, rfl, rfl, rfl, trivial⟩
    ·
     refine W_false rfl ?_
     refine W_sr ?_
     refine s_pu (p_eqS rfl rfl) rfl ?_
     refine s_pu (p_assign rfl) rfl ?_
     refine WL_th ?_
     refine W_bool 21 rfl (fun ht21 => ?_) (fun ht21 => ?_)
     ·
      refine W_true rfl ?_
      refine W_skip_th ?_
      refine W_bool 21 rfl (fun ht21 => ?_) (fun ht21 => ?_)
      ·
       refine W_true rfl ?_
       refine W_reg ?_
       refine s_pu (p_move rfl) rfl ?_
       refine k_quiet (c_Inf _ _) hs (.cons rfl .nil) rfl ?_
       rintro _ _ ⟨fb, rfl⟩ hs _
       refine s_pu (p_nilCheck rfl) rfl ?_
       refine s_pu (p_field rfl) rfl ?_
       refine k_st hs rfl rfl .head rfl rfl ?_
       intro _ hs
       refine WL_nil ?_
       show W _ _ _ _ _ _
       refine W_forget (Ext.cd 3 rfl (Ext.nil _)) ?_
       refine W_sr ?_
       refine s_pu (p_move rfl) rfl ?_
       refine s_pu (p_assign rfl) rfl ?_
       refine WL_th ?_
       refine W_ret ?_
       refine ret_tmp (fn := Tryz.f39) rfl rfl ?_
       exact hs.first2.fresh ⟨_, _, _, _, rfl, rfl, rfl, rfl, trivial⟩
      ·
       refine W_false rfl ?_
       refine W_skip ?_
       show W _ _ _ _ _ _
       refine W_sr ?_
       refine s_pu (p_move rfl) rfl ?_
       refine s_pu (p_assign rfl) rfl ?_
       refine WL_th ?_
       refine W_ret ?_
       refine ret_tmp (fn := Tryz.f39) rfl rfl ?_
       exact hs.first2.fresh ⟨_, _, _, _, rfl, rfl, rfl, rfl, trivial⟩
     ·
      refine W_false rfl ?_
      refine W_reg ?_
      refine s_pu (p_eqS rfl rfl) rfl ?_
      refine s_pu (p_assign rfl) rfl ?_
      refine WL_th ?_
      refine W_bool 21 rfl (fun ht21 => ?_) (fun ht21 => ?_)
      ·
       refine W_true rfl ?_
       refine W_reg ?_
       refine s_pu (p_move rfl) rfl ?_
       refine k_quiet (c_Inf _ _) hs (.cons rfl .nil) rfl ?_
       rintro _ _ ⟨fb, rfl⟩ hs _
       refine s_pu (p_nilCheck rfl) rfl ?_
       refine s_pu (p_field rfl) rfl ?_
       refine k_st hs rfl rfl .head rfl rfl ?_
       intro _ hs
       refine WL_nil ?_
       show W _ _ _ _ _ _
       refine W_forget (Ext.cd 3 rfl (Ext.nil _)) ?_
       refine W_sr ?_
       refine s_pu (p_move rfl) rfl ?_
       refine s_pu (p_assign rfl) rfl ?_
       refine WL_th ?_
       refine W_ret ?_
       refine ret_tmp (fn := Tryz.f39) rfl rfl ?_
       exact hs.first2.fresh ⟨_, _, _, _, rfl, rfl, rfl, rfl, trivial⟩
      ·
       refine W_false rfl ?_
       refine W_skip ?_
       show W _ _ _ _ _ _
       refine W_sr ?_
       refine s_pu (p_move rfl) rfl ?_
       refine s_pu (p_assign rfl) rfl ?_
       refine WL_th ?_
       refine W_ret ?_
       refine ret_tmp (fn := Tryz.f39) rfl rfl ?_
       exact hs.first2.fresh ⟨_, _, _, _, rfl, rfl, rfl, rfl, trivial⟩
end Go.Proofs.YtmalghopogngoaaGreatDoor
set_option linter.unusedVariables false
set_option maxRecDepth 4000
namespace Go.Proofs.YtmalghopogngoaaGreatDoor
open Go Go.RowKit MW
/-- A list of values as a function. -/
def ls (l : List Value) : Nat → Value := fun i => l[i]?.getD undef
theorem c_Sequence (tb : Nat) (flow : Bool) (w : World) : Fresh Tryz.prog 71 [.pointer (some ⟨tb, 0, none⟩), .bool flow] w fun r G => ∃ b bb rb, r = .pointer (some ⟨b, 0, none⟩) ∧
  G = [pt b 179 8 (cl [.pointer (some ⟨bb, 0, none⟩), .pointer (some ⟨tb, 0, none⟩), .pointer none, .bool flow, .slice (some ⟨rb, 0, none⟩) 0 0, .slice none 0 0, .slice none 0 0, .pointer none]), row (.slice (some ⟨rb, 0, none⟩) 0 0) 48 1 0 (ls []), pt bb 191 3 (cl [.string ⟨#[]⟩, .pointer none, .int .i64 0])] := by
 have hs := St.startNone w
 refine calls_W (args := [_, _]) Tryz.func71 rfl Tryz.ntmps71 rfl ?_
 refine W_sr ?_
 refine s_pu (p_assign rfl) rfl ?_
 refine WL_th ?_
 refine W_sr ?_
 refine s_pu (p_st .nil) rfl ?_
 refine k_box hs rfl rfl ?_
 intro b6 _ hs
 refine s_pu (p_move rfl) rfl ?_
 refine s_pu (p_move rfl) rfl ?_
 refine k_bs hs .nil rfl rfl rfl ?_
 intro b9 _ hs
 refine s_pu (p_st (.one rfl rfl rfl (.one rfl rfl rfl (.one rfl rfl rfl (.one rfl rfl rfl .nil))))) rfl ?_
 refine k_box hs rfl rfl ?_
 intro b11 _ hs
 refine s_pu (p_assign rfl) rfl ?_
 refine WL_th ?_
 refine W_ret ?_
 refine ret_tmp (fn := Tryz.f71) rfl rfl ?_
 have hs := hs.imp .head (pt_to (g := cl [.pointer (some ⟨b6, 0, none⟩), .pointer (some ⟨tb, 0, none⟩), .pointer none, .bool flow, .slice (some ⟨b9, 0, none⟩) 0 0, .slice none 0 0, .slice none 0 0, .pointer none]) (by repeat (first | exact below_zero | refine below_succ ?_ rfl)))
 have hs := hs.imp .t1 (pt_row (n := 0) (sz := 1) rfl (maxLen_big rfl))
 have hs := hs.imp .t1 (row_to (g := ls []) (fun i h => by omega))
 exact hs.fresh ⟨_, _, _, rfl, rfl⟩
theorem c_Mapping (tb : Nat) (flow : Bool) (vs : Value) (l : List Value) (hl : l.length ≤ 1000000) (h1 : ∀ i, i < l.length * 1 → (ls l i).oneCell' = true) : MW.Spec Tryz.prog 45 [.pointer (some ⟨tb, 0, none⟩), .bool flow, vs].toArray [row vs 126 1 l.length (ls l)] fun r G => ∃ b bb u, r = .pointer (some ⟨b, 0, none⟩) ∧
  G = [row u 126 1 l.length (ls l), pt b 121 6 (cl [.pointer (some ⟨bb, 0, none⟩), .pointer (some ⟨tb, 0, none⟩), .pointer none, .bool flow, u, .pointer none]), pt bb 191 3 (cl [.string ⟨#[]⟩, .pointer none, .int .i64 0])] := by
 intro w S hsat
 have hs := St.start hsat
 refine calls_W (args := [_, _, _]) Tryz.func45 rfl Tryz.ntmps45 rfl ?_
 refine W_sr ?_
 refine s_pu (p_assign rfl) rfl ?_
 refine WL_th ?_
 refine W_sr ?_
 refine s_pu (p_st .nil) rfl ?_
 refine k_box hs rfl rfl ?_
 intro b9 _ hs
 refine s_pu (p_move rfl) rfl ?_
 refine s_pu (p_move rfl) rfl ?_
 refine k_bs hs .nil rfl rfl rfl ?_
 intro b12 _ hs
 refine s_pu (p_st (.one rfl rfl rfl (.one rfl rfl rfl (.one rfl rfl rfl (.one rfl rfl rfl .nil))))) rfl ?_
 refine k_box hs rfl rfl ?_
 intro b14 _ hs
 have hs := hs.imp .t1 (pt_row (n := 0) (sz := 1) rfl (maxLen_big rfl))
 have hs := hs.imp .head (pt_to (g := cl [.pointer (some ⟨b9, 0, none⟩), .pointer (some ⟨tb, 0, none⟩), .pointer none, .bool flow, .slice (some ⟨b12, 0, none⟩) 0 0, .pointer none]) (by repeat (first | exact below_zero | refine below_succ ?_ rfl)))
 refine s_pu (p_assign rfl) rfl ?_
 refine WL_th ?_
 refine W_sr ?_
 refine s_pu (p_move rfl) rfl ?_
 refine s_pu (p_move rfl) rfl ?_
 refine s_pu (p_nilCheck rfl) rfl ?_
 refine s_pu (p_field rfl) rfl ?_
 refine k_ld hs rfl (by repeat (first | exact .head | apply Pick.tail)) rfl rfl ?_
 refine s_pu (p_move rfl) rfl ?_
 have hs := hs.front .t1
 refine k_appR hs rfl rfl .t2 h1 (by omega) (by omega) rfl ?_
 intro v21 _ hs
 have hs := hs.front .t1
 refine s_pu (p_nilCheck rfl) rfl ?_
 refine s_pu (p_field rfl) rfl ?_
 refine k_st hs rfl rfl .head ?_ rfl ?_
 ·
  exact row_one (hs.pick .t1)
 intro _ hs
 refine WL_th ?_
 refine W_forget (Ext.cd 7 rfl (Ext.nil _)) ?_
 refine W_sr ?_
 refine s_pu (p_move rfl) rfl ?_
 refine s_pu (p_assign rfl) rfl ?_
 refine WL_th ?_
 refine W_ret ?_
 refine ret_tmp (fn := Tryz.f45) rfl rfl ?_
 have hs := hs.imp .head (pt_to (g := cl [.pointer (some ⟨b9, 0, none⟩), .pointer (some ⟨tb, 0, none⟩), .pointer none, .bool flow, v21, .pointer none]) (by repeat (first | exact below_zero | refine below_succ ?_ rfl)))
 have hs := hs.front .t1
 have hs := hs.imp .head (row_to (g := ls l) (fun i h => by unfold cat; rfl))
 rw [Nat.zero_add] at hs
 exact (hs.drop .t3).spec ⟨_, _, _, rfl, rfl⟩
end Go.Proofs.YtmalghopogngoaaGreatDoor
set_option linter.unusedVariables false
set_option maxRecDepth 4000
namespace Go.Proofs.YtmalghopogngoaaGreatDoor
open Go Go.RowKit MW
theorem c_kid (n : NRec) (ks : List Rose) (i : Nat) (k : Rose) (w : World) (h : KidsAt w n.kids ks) (hk : ks[i]? = some k) (h1 : k.n.kids.oneCell' = true) : Quiet Tryz.prog 44 [.agg (mkA 19 (nc n)), .int .i64 i] w fun v => v = .agg (mkA 19 (nc k.n)) := by
 have hs := St.startNone w
 obtain ⟨kind, typ, value, text, origin, flow, pl, pc, po, kv⟩ := n
 obtain ⟨ad, cap, hv, hall⟩ := h.out
 obtain rfl : kv = _ := hv
 obtain ⟨b, rfl, hcell⟩ := hall i k hk
 have hlt : i < ks.length := (List.getElem?_eq_some_iff.1 hk).1
 refine calls_W (args := [_, _]) Tryz.func44 rfl Tryz.ntmps44 rfl ?_
 refine W_sr ?_
 refine k_box hs rfl rfl ?_
 intro b2 _ hs
 refine k_alloc hs rfl ?_
 intro b4 _ hs
 refine WL_th ?_
 refine W_seq ?_
 refine W_sr ?_
 refine s_pu (p_move rfl) rfl ?_
 refine s_pu (p_field rfl) rfl ?_
 refine k_ld hs rfl .t1 rfl rfl ?_
 refine s_pu (p_lenL rfl) rfl ?_
 refine s_pu (p_ltI rfl rfl) rfl ?_
 refine WL_th ?_
 refine W_if rfl (fun h9 => ?_) (fun h9 => ?_)
 ·
  refine W_sr ?_
  refine s_pu (p_field rfl) rfl ?_
  refine k_ld hs rfl .t1 rfl rfl ?_
  refine s_pu (p_move rfl) rfl ?_
  refine s_pu (p_elem rfl rfl (by omega) (by omega)) rfl ?_
  have hcell1 := cell_old hs hcell
  refine s_at (m_loadA (n := 19) (g := nc k.n) rfl (by rw [Int.toNat_natCast]; exact hcell1)) rfl ?_
  refine k_stW hs rfl rfl .head (nc_one h1) ?_
  intro _ hs
  refine WL_th ?_
  refine W_forget (Ext.cd 4 rfl (Ext.nil _)) ?_
  refine W_ret ?_
  refine th_ret ?_
  refine ret_cell (fn := Tryz.f44) rfl rfl hs .head ?_
  exact ⟨rfl, hs.keep0⟩
 ·
  exact absurd h9 (by simp; omega)
theorem c_comments (p : Value) (w : World) : Quiet Tryz.prog 20 [.slice none 0 0, p] w fun v => v = .pointer none := by
 have hs := St.startNone w
 refine calls_W (args := [_, _]) Tryz.func20 rfl Tryz.ntmps20 rfl ?_
 refine W_sr ?_
 refine s_pu (p_assign rfl) rfl ?_
 refine WL_th ?_
 refine W_seq ?_
 refine W_sr ?_
 refine s_pu (p_move rfl) rfl ?_
 refine s_pu (p_lenL rfl) rfl ?_
 refine s_pu (p_eqI rfl rfl) rfl ?_
 refine WL_th ?_
 refine W_true rfl ?_
 refine W_sr ?_
 refine s_pu (p_assign rfl) rfl ?_
 refine WL_th ?_
 refine W_ret ?_
 refine th_ret ?_
 refine ret_tmp (fn := Tryz.f20) rfl rfl ?_
 exact ⟨rfl, hs.keep0⟩
theorem c_text (n : NRec) (w : World) : Fresh Tryz.prog 41 [.agg (mkA 19 (nc n))] w (NewNode 161 3 (fun f => True)) := by
 have hs := St.startNone w
 obtain ⟨kind, typ, value, text, origin, flow, pl, pc, po, kv⟩ := n
 refine calls_W (args := [_]) Tryz.func41 rfl Tryz.ntmps41 rfl ?_
 refine W_sr ?_
 refine k_box hs rfl rfl ?_
 intro b1 _ hs
 refine s_pu (p_assign rfl) rfl ?_
 refine WL_th ?_
 refine W_seq ?_
 refine h_start (S := fun w => w.heap[b1]? = some (.cells (mkA 19 (nc ⟨kind, typ, value, text, origin, flow, pl, pc, po, kv⟩)) 31 (0, 0))) (ls := #[false, false, false, false, false, false, false, false, false, false, false, false, false]) (n := 13) (by kernel_rfl) (by kernel_rfl) ?_
 have hs := hs.drew
 refine h_pu 0 rfl (ls' := #[true, false, false, false, false, false, false, false, false, false, false, false, false]) (by kernel_rfl) (fun _ _ _ h => h) rfl (hs.cell .head) (p_field rfl) ?_
 refine h_take 1 rfl (ls' := #[true, true, false, false, false, false, false, false, false, false, false, false, false]) (by kernel_rfl) (fun _ _ _ h => h) rfl (hs.cell .head) (fun w hw => q_ld rfl hw rfl) ?_
 refine h_pu 2 rfl (ls' := #[true, true, true, false, false, false, false, false, false, false, false, false, false]) (by kernel_rfl) (fun _ _ _ h => h) rfl (hs.cell .head) (p_field rfl) ?_
 refine h_take 3 rfl (ls' := #[true, true, true, true, false, false, false, false, false, false, false, false, false]) (by kernel_rfl) (fun _ _ _ h => h) rfl (hs.cell .head) (fun w hw => q_ld rfl hw rfl) ?_
 refine h_pu 4 rfl (ls' := #[true, true, true, true, true, false, false, false, false, false, false, false, false]) (by kernel_rfl) (fun _ _ _ h => h) rfl (hs.cell .head) (p_field rfl) ?_
 refine h_take 5 rfl (ls' := #[true, true, true, true, true, true, false, false, false, false, false, false, false]) (by kernel_rfl) (fun _ _ _ h => h) rfl (hs.cell .head) (fun w hw => q_ld rfl hw rfl) ?_
 refine h_pu 6 rfl (ls' := #[true, true, true, true, true, true, true, false, false, false, false, false, false]) (by kernel_rfl) (fun _ _ _ h => h) rfl (hs.cell .head) (p_field rfl) ?_
 refine h_take 7 rfl (ls' := #[true, true, true, true, true, true, true, true, false, false, false, false, false]) (by kernel_rfl) (fun _ _ _ h => h) rfl (hs.cell .head) (fun w hw => q_ldA rfl hw rfl) ?_
 refine h_one 8 rfl (ls' := #[true, true, true, true, true, true, true, true, true, false, false, false, false]) (by kernel_rfl) ?_
 refine k_fresh (c_position _ _ _ _ _ _) hs (.cons rfl .nil) rfl ?_
 rintro _ _ _ ⟨p12, pf12, rfl, rfl⟩ hs _
 refine WL_th ⟨(hs.cell .t1), ?_⟩
 refine h_pu 9 rfl (ls' := #[true, true, true, true, true, true, true, true, true, true, false, false, false]) (by kernel_rfl) (fun _ _ _ h => h) rfl (hs.cell .t1) (p_st (.one rfl rfl rfl (.one rfl rfl rfl (.one rfl rfl rfl (.one rfl rfl rfl .nil))))) ?_
 refine h_one 10 rfl (ls' := #[true, true, true, true, true, true, true, true, true, true, true, false, false]) (by kernel_rfl) ?_
 refine k_box hs rfl rfl ?_
 intro b14 _ hs
 have hs := hs.imp .head (pt_to (g := tokC typ text origin p12) (by repeat (first | exact below_zero | refine below_succ ?_ rfl)))
 refine WL_th ⟨(hs.cell .t2), ?_⟩
 refine h_one 11 rfl (ls' := #[true, true, true, true, true, true, true, true, true, true, true, true, false]) (by kernel_rfl) ?_
 refine k_fresh (c_String _ _ _ _ _ _ (hs.cell .head)) hs (.cons rfl .nil) rfl ?_
 rintro _ _ _ ⟨sb, sbb, sf, sg, rfl, rfl, hf0, hg1, _⟩ hs _
 refine WL_th ⟨(hs.cell .t4), ?_⟩
 refine h_pu 12 rfl (ls' := #[true, true, true, true, true, true, true, true, true, true, true, true, true]) (by kernel_rfl) (fun _ _ _ h => h) rfl (hs.cell .t4) (p_assign rfl) ?_
 refine h_done (by kernel_rfl) ?_
 show W _ _ _ _ _ _
 refine W_forget (Ext.cd 1 rfl (Ext.cd 3 rfl (Ext.nil _))) ?_
 refine W_sr ?_
 refine s_pu (p_move rfl) rfl ?_
 refine s_pu (p_field rfl) rfl ?_
 refine k_ld hs rfl .t4 rfl rfl ?_
 refine s_pu (p_nilCheck rfl) rfl ?_
 refine s_pu (p_field rfl) rfl ?_
 refine k_st hs rfl rfl (by repeat (first | exact .head | apply Put.tail)) rfl rfl ?_
 intro _ hs
 refine WL_th ?_
 refine W_sr ?_
 refine s_pu (p_move rfl) rfl ?_
 refine s_pu (p_assign rfl) rfl ?_
 refine WL_th ?_
 refine W_ret ?_
 refine ret_tmp (fn := Tryz.f41) rfl rfl ?_
 exact hs.first2.fresh ⟨sb, sbb, _, sg, rfl, rfl, hf0, hg1, trivial⟩
end Go.Proofs.YtmalghopogngoaaGreatDoor
set_option linter.unusedVariables false
namespace Go.Proofs.YtmalghopogngoaaGreatDoor
open Go Go.RowKit MW
section
variable {w w0 : World} {F : Foot} {G : List Assn} {b T' n bb : Nat} {f g : Nat → Value} {kids us vs : List AT}
theorem MW.St.seal_node (hs : St w0 F w (pt b T' n f :: pt bb 191 3 g :: astL kids :: G)) (hf0 : f 0 = .pointer (some ⟨bb, 0, none⟩)) (hg1 : g 1 = .pointer none) (T : Nat) (hB : ∀ w S, Below1 w S f T n kids) : St w0 F w (astL [.mk T b kids] :: G) :=
 hs.star.join fun w S1 S2 h1 h2 hd => by
  refine YtmalghopogngoaaGreatDoor.seal_node (A := MW.star (pt b T' n f) (pt bb 191 3 g)) (fun w S ⟨S1, S2, h1, h2, _, h4⟩ => (h4 b).2 (.inl ((h1.1 b).2 rfl))) (fun w S ⟨S1, S2, h1, h2, _, h4⟩ => ⟨n, T', f, bb, g, (h4 b).2 (.inl ((h1.1 b).2 rfl)), (h4 bb).2 (.inr ((h2.1 bb).2 rfl)), h1.2, hf0, h2.2, hg1, hB w S⟩) w S1 S2 h1 h2 hd
theorem elems_of_row {v : Value} {T : Nat} {l : List Value} {S : Foot} (h : (row v T 1 l.length (fun i => l[i]?.getD undef)).on w S) : ElemsAt w S v l := by
 rcases h with ⟨h1, h2, _⟩ | ⟨b, cap, cur, h1, h2, h3, h4, h5, h6, h7⟩
 ·
  exact .inl ⟨h1, List.eq_nil_of_length_eq_zero h2⟩
 ·
  exact .inr ⟨b, cap, T, cur, h1, (h2 b).2 rfl, h3, fun i hi => h7 i (by omega)⟩
theorem MW.St.seal_row {v : Value} {T1 : Nat} {l : List Value} (hs : St w0 F w (pt b T' n f :: pt bb 191 3 g :: row v T1 1 l.length (fun i => l[i]?.getD undef) :: astL kids :: G)) (hf0 : f 0 = .pointer (some ⟨bb, 0, none⟩)) (hg1 : g 1 = .pointer none) (T : Nat) (hB : ∀ w S, ElemsAt w S v l → Below1 w S f T n kids) : St w0 F w (astL [.mk T b kids] :: G) := by
 have hs := hs.star
 have hs := hs.star
 exact hs.join fun w S1 S2 h1 h2 hd => by
  refine YtmalghopogngoaaGreatDoor.seal_node (A := MW.star (MW.star (pt b T' n f) (pt bb 191 3 g)) (row v T1 1 l.length (fun i => l[i]?.getD undef))) (fun w S ⟨S0, S3, ⟨S1, S2, h1, h2, _, h4⟩, h3, _, h5⟩ => (h5 b).2 (.inl ((h4 b).2 (.inl ((h1.1 b).2 rfl)))))
   (fun w S ⟨S0, S3, ⟨S1, S2, h1, h2, _, h4⟩, h3, _, h5⟩ => ⟨n, T', f, bb, g, (h5 b).2 (.inl ((h4 b).2 (.inl ((h1.1 b).2 rfl)))), (h5 bb).2 (.inl ((h4 bb).2 (.inr ((h2.1 bb).2 rfl)))), h1.2, hf0, h2.2, hg1, hB w S ((elems_of_row h3).keep (.refl _ _) (fun x hx => (h5 x).2 (.inr hx)))⟩) w S1 S2 h1 h2 hd
theorem MW.St.asts (hs : St w0 F w (astL us :: astL vs :: G)) : St w0 F w (astL (us ++ vs) :: G) := hs.join fun w S1 S2 h1 h2 hd => astL_app w S1 S2 h1 h2 hd
theorem Sat.nilA {S : Foot} (h : Sat w G S) : Sat w (astL [] :: G) S := .cons (S1 := fun _ => False) (astL_nil w _) (fun _ => False.elim) h (fun _ => False.elim) (fun b => ⟨.inr, fun h => h.elim False.elim id⟩)
theorem MW.St.nilA (hs : St w0 F w G) : St w0 F w (astL [] :: G) := by
 obtain ⟨S, h, hF⟩ := hs.sat
 exact ⟨hs.keep, S, Sat.nilA h, hF⟩
end
/-- A list of values as a slice at hand. -/
def rowL (v : Value) (T : Nat) (l : List Value) : Assn := row v T 1 l.length (fun i => l[i]?.getD undef)
theorem rowL_snoc {v : Value} {T : Nat} {l : List Value} {z : Nat → Value} {a : Value} (w : World) (S : Foot) (h : (row v T 1 (l.length + 1) (cat (fun i => l[i]?.getD undef) (l.length * 1) (updC z 0 a))).on w S) : (rowL v T (l ++ [a])).on w S := by
 unfold rowL
 rw [show (l ++ [a]).length = l.length + 1 by simp]
 refine row_congr (fun i hi => ?_) h
 unfold cat updC
 by_cases hlt : i < l.length
 ·
  have e1 : Nat.blt i (l.length * 1) = true := Nat.ble_eq_true_of_le (by omega)
  rw [e1, List.getElem?_append_left hlt]
  rfl
 ·
  have e1 : Nat.blt i (l.length * 1) = false := by
   cases hb : Nat.blt i (l.length * 1) with
   | true => exact absurd (Nat.le_of_ble_eq_true hb) (by omega)
   | false => rfl
  have : i = l.length := by omega
  subst this
  rw [e1]
  simp
/-- Memory on some blocks is as it was in a world. -/
def snap (w0 : World) (S0 : Foot) : Assn where
 on w S := (∀ b, S0 b → S b) ∧ SameOn S0 w0 w
 loc := fun w w' S h hk => ⟨h.1, fun b o hb ho => (hk b (h.1 b hb)).trans (h.2 b o hb ho)⟩
theorem MW.St.same {w1 w w2 : World} {F S0 : Foot} {G G' : List Assn} (hs : St w1 F w G) (hp : Pick G (snap w2 S0) G') : SameOn S0 w2 w := by
 obtain ⟨_, h⟩ := hs.pick hp
 exact h.2
theorem ElemsAt.out {w : World} {S : Foot} {v : Value} {l : List Value} (h : ElemsAt w S v l) : ∃ ad cap, v = .slice ad l.length cap ∧ ∀ (i : Nat) (x : Value), l[i]? = some x → ∃ b, ad = some ⟨b, 0, none⟩ ∧ ∀ w', SameOn S w w' → w'.cell? ⟨b, 0 + i * 1, none⟩ = some x := by
 rcases h with ⟨rfl, rfl⟩ | ⟨b, cap, T, cur, h1, h0, h2, h3⟩
 ·
  exact ⟨none, 0, rfl, fun i x h => by simp at h⟩
 ·
  refine ⟨_, cap, h1, fun i x hx => ⟨b, rfl, fun w' hw => ?_⟩⟩
  have hlt := (List.getElem?_eq_some_iff.1 hx).1
  have := h3 i hlt
  rw [hx] at this
  rw [Nat.zero_add, Nat.mul_one]
  simp [World.cell?, hw b _ h0 h2, this]
theorem pre_length (t : AT) : t.pre.length = t.size := by
 have key : ∀ n, (∀ t : AT, t.size ≤ n → t.pre.length = t.size) := by
  intro n
  induction n with
  | zero => intro t h; cases t; simp [AT.size] at h
  | succ n ih =>
   intro t h
   cases t with
   | mk T b ks =>
    have hl : ∀ l : List AT, asizes l ≤ n → (pres l).length = asizes l := by
     intro l
     induction l with
     | nil => intro _; rfl
     | cons a l ihl => intro hle; simp only [asizes] at hle; simp [pres, asizes, ih a (by omega), ihl (by omega)]
    simp only [AT.size] at h
    simp [AT.pre, AT.size, hl ks (by omega)]
    omega
 exact key _ t (Nat.le_refl _)
theorem pres_length : ∀ l : List AT, (pres l).length = asizes l
 | [] => rfl
 | a :: l => by simp [pres, asizes, pre_length a, pres_length l]
theorem pre_mk (T b : Nat) (ks : List AT) : (AT.mk T b ks).pre = .mk T b ks :: pres ks := by simp [AT.pre]
theorem one_le_asize (t : AT) : 1 ≤ t.size := by cases t; simp [AT.size]
theorem pres_take_succ {ks : List AT} {i : Nat} {k : AT} (h : ks[i]? = some k) : pres (ks.take (i + 1)) = pres (ks.take i) ++ k.pre := by
 have : ks.take (i + 1) = ks.take i ++ [k] := by rw [List.take_add_one, h]; rfl
 rw [this, pres_app, pres_one]
theorem asizes_take {ks : List AT} {i : Nat} {k : AT} (h : ks[i]? = some k) : asizes (ks.take i) + k.size ≤ asizes ks := by
 have h1 : ks = ks.take i ++ k :: ks.drop (i + 1) := by
  have := List.take_append_drop i ks
  rw [List.drop_eq_getElem?_toList_append, h] at this
  simpa using this.symm
 have h2 := congrArg (fun l => (pres l).length) h1
 simp only [pres_app, List.length_append, pres_length, asizes] at h2
 omega
theorem key_ok {T : Nat} (h : leafT T = true) : hasAll Tryz.prog T 172 = true := by
 unfold leafT at h
 simp only [Bool.or_eq_true, beq_iff_eq] at h
 rcases h with (((((rfl | rfl) | rfl) | rfl) | rfl) | rfl) | rfl <;> kernel_rfl
def BuildR (r : Rose) (v : Value) (G : List Assn) : Prop := ∃ t : AT, v = t.val ∧ G = [astL [t]] ∧ t.shape = r.shape ∧ (2 ≤ r.n.kind → r.n.kind ≤ 8 → leafT t.T = true)
def PairR (r : Rose) (v : Value) (G : List Assn) : Prop := ∃ t : AT, v = t.ptr ∧ t.T = 126 ∧ G = [astL [t]] ∧ t.shape = r.shape
def BuildOK (Γ : Glob) (r : Rose) : Prop := ∀ w, Γ.p w → RepN w r → Fresh Tryz.prog 11 [.agg (mkA 19 (nc r.n))] w (BuildR r)
def PairOK (Γ : Glob) (r : Rose) : Prop := ∀ w, Γ.p w → RepN w r → Fresh Tryz.prog 48 [.agg (mkA 19 (nc r.n))] w (PairR r)
end Go.Proofs.YtmalghopogngoaaGreatDoor
set_option linter.unusedVariables false
set_option linter.unusedSimpArgs false
set_option maxRecDepth 4000
namespace Go.Proofs.YtmalghopogngoaaGreatDoor
open Go Go.RowKit MW
theorem c_pair {Γ : Glob} (n : NRec) (a b : Rose) (ha1 : 2 ≤ a.n.kind) (ha2 : a.n.kind ≤ 8) (hBa : BuildOK Γ a) (hBb : BuildOK Γ b) : PairOK Γ (.mk n [a, b]) := by
 intro w hG hR
 have hs := St.startNone w
 have hRa : RepN w a := hR.all a (by simp [Rose.kids])
 have hRb : RepN w b := hR.all b (by simp [Rose.kids])
 obtain ⟨kind, typ, value, text, origin, flow, pl, pc, po, kv⟩ := n
 refine calls_W (args := [_]) Tryz.func48 rfl Tryz.ntmps48 rfl ?_
 refine W_sr ?_
 refine k_box hs rfl rfl ?_
 intro b1 _ hs
 refine s_pu (p_assign rfl) rfl ?_
 refine WL_th ?_
 refine W_sr ?_
 refine s_pu (p_field rfl) rfl ?_
 refine k_ldA hs rfl .head rfl rfl ?_
 refine k_fresh (c_position _ _ _ _ _ _) hs (.cons rfl .nil) rfl ?_
 rintro _ _ _ ⟨p9, pf9, rfl, rfl⟩ hs _
 refine s_pu (p_assign rfl) rfl ?_
 refine WL_th ?_
 refine W_sr ?_
 refine k_ldW hs rfl .t1 rfl ?_
 refine k_quiet (c_kid _ _ 0 a _ (hR.keep hs.keep.sames).kids rfl (hRa.one)) hs (.cons rfl (.cons rfl .nil)) rfl ?_
 rintro _ _ rfl hs _
 refine k_fresh (hBa _ (Γ.keep _ _ hG hs.keep.sames) (hRa.keep hs.keep.sames)) hs (.cons rfl .nil) rfl ?_
 rintro _ _ _ ⟨ta, rfl, rfl, hsha, hkeya⟩ hs _
 refine s_pu (p_taI rfl (key_ok (hkeya ha1 ha2))) rfl ?_
 refine s_pu (p_move rfl) rfl ?_
 refine s_pu (p_extract (vs := [_, _]) rfl rfl) rfl ?_
 refine s_pu (p_extract (vs := [_, _]) rfl rfl) rfl ?_
 refine s_pu (p_assign rfl) rfl ?_
 refine s_pu (p_assign rfl) rfl ?_
 refine WL_th ?_
 refine W_forget (Ext.cd 1 rfl (Ext.cd 3 rfl (Ext.cd 4 rfl (Ext.cd 5 rfl (Ext.nil _))))) ?_
 refine W_seq ?_
 refine W_sr ?_
 refine s_pu (p_move rfl) rfl ?_
 refine s_pu (p_not rfl) rfl ?_
 refine WL_th ?_
 refine W_false rfl ?_
 refine W_skip_th ?_
 refine W_join (fun e' w' => ∃ tb : AT, tb.shape = b.shape ∧ ∃ nb bb nf ng, Ext e' (upd (upd (upd emp 3 (.pointer (some ⟨p9, 0, none⟩))) 1 (.pointer (some ⟨b1, 0, none⟩))) 6 (.pointer (some ⟨nb, 0, none⟩))) ∧ St w (fun _ => False) w' [pt nb 174 7 nf, pt bb 191 3 ng, astL [tb], astL [ta], pt b1 31 19 (nc ⟨kind, typ, value, text, origin, flow, pl, pc, po, kv⟩)] ∧ nf 0 = .pointer (some ⟨bb, 0, none⟩) ∧ ng 1 = .pointer none ∧ nf 3 = ta.val ∧ nf 4 = tb.val) ?_ ?_
 ·
  refine h_start (S := fun w => w.heap[b1]? = some (.cells (mkA 19 (nc ⟨kind, typ, value, text, origin, flow, pl, pc, po, kv⟩)) 31 (0, 0))) (ls := #[false, false, false, false, false, false, false, false, false, false, false, false, false, false, false]) (n := 15) (by kernel_rfl) (by kernel_rfl) ?_
  have hs := hs.drew
  refine h_pu 0 rfl (ls' := #[true, false, false, false, false, false, false, false, false, false, false, false, false, false, false]) (by kernel_rfl) (fun _ _ _ h => h) rfl (hs.cell .t2) (p_field rfl) ?_
  refine h_take 1 rfl (ls' := #[true, true, false, false, false, false, false, false, false, false, false, false, false, false, false]) (by kernel_rfl) (fun _ _ _ h => h) rfl (hs.cell .t2) (fun w hw => q_ld rfl hw rfl) ?_
  refine h_pu 2 rfl (ls' := #[true, true, true, false, false, false, false, false, false, false, false, false, false, false, false]) (by kernel_rfl) (fun _ _ _ h => h) rfl (hs.cell .t2) (p_field rfl) ?_
  refine h_take 3 rfl (ls' := #[true, true, true, true, false, false, false, false, false, false, false, false, false, false, false]) (by kernel_rfl) (fun _ _ _ h => h) rfl (hs.cell .t2) (fun w hw => q_ld rfl hw rfl) ?_
  refine h_pu 4 rfl (ls' := #[true, true, true, true, true, false, false, false, false, false, false, false, false, false, false]) (by kernel_rfl) (fun _ _ _ h => h) rfl (hs.cell .t2) (p_field rfl) ?_
  refine h_take 5 rfl (ls' := #[true, true, true, true, true, true, false, false, false, false, false, false, false, false, false]) (by kernel_rfl) (fun _ _ _ h => h) rfl (hs.cell .t2) (fun w hw => q_ld rfl hw rfl) ?_
  refine h_pu 6 rfl (ls' := #[true, true, true, true, true, true, true, false, false, false, false, false, false, false, false]) (by kernel_rfl) (fun _ _ _ h => h) rfl (hs.cell .t2) (p_move rfl) ?_
  refine h_pu 7 rfl (ls' := #[true, true, true, true, true, true, true, true, false, false, false, false, false, false, false]) (by kernel_rfl) (fun _ _ _ h => h) rfl (hs.cell .t2) (p_st (.one rfl rfl rfl (.one rfl rfl rfl (.one rfl rfl rfl (.one rfl rfl rfl .nil))))) ?_
  refine h_pu 9 rfl (ls' := #[true, true, true, true, true, true, true, true, false, true, false, false, false, false, false]) (by kernel_rfl) (fun _ _ _ h => h) rfl (hs.cell .t2) (p_move rfl) ?_
  refine h_take 10 rfl (ls' := #[true, true, true, true, true, true, true, true, false, true, true, false, false, false, false]) (by kernel_rfl) (fun _ _ _ h => h) rfl (hs.cell .t2) (fun w hw => q_ldW rfl hw) ?_
  refine h_two 8 11 rfl rfl (ls' := #[true, true, true, true, true, true, true, true, true, true, true, false, false, false, false]) (ls'' := #[true, true, true, true, true, true, true, true, false, true, true, true, false, false, false]) (by kernel_rfl) ?_ ?_
  ·
   refine k_box hs rfl rfl ?_
   intro b32 _ hs
   refine WL_th ⟨(hs.cell .t3), ?_⟩
   refine h_one 11 rfl (ls' := #[true, true, true, true, true, true, true, true, true, true, true, true, false, false, false]) (by kernel_rfl) ?_
   refine k_quiet (c_kid _ _ 1 b _ (hR.keep hs.keep.sames).kids rfl (hRb.one)) hs (.cons rfl (.cons rfl .nil)) rfl ?_
   rintro _ _ rfl hs _
   refine WL_th ⟨(hs.cell .t3), ?_⟩
   refine h_one 12 rfl (ls' := #[true, true, true, true, true, true, true, true, true, true, true, true, true, false, false]) (by kernel_rfl) ?_
   refine k_fresh (hBb _ (Γ.keep _ _ hG hs.keep.sames) (hRb.keep hs.keep.sames)) hs (.cons rfl .nil) rfl ?_
   rintro _ _ _ ⟨tb, rfl, rfl, hshb, hkeyb⟩ hs _
   refine WL_th ⟨(hs.cell .t4), ?_⟩
   refine h_one 13 rfl (ls' := #[true, true, true, true, true, true, true, true, true, true, true, true, true, true, false]) (by kernel_rfl) ?_
   refine k_fresh (c_MappingValue _ _ _ _ _ _) hs (.cons rfl (.cons rfl (.cons rfl .nil))) rfl ?_
   rintro _ _ _ ⟨nb, bb, nf, ng, rfl, rfl, hf0, hg1, hf3, hf4⟩ hs _
   refine WL_th ⟨(hs.cell .t6), ?_⟩
   refine h_pu 14 rfl (ls' := #[true, true, true, true, true, true, true, true, true, true, true, true, true, true, true]) (by kernel_rfl) (fun _ _ _ h => h) rfl (hs.cell .t6) (p_assign rfl) ?_
   refine h_done (by kernel_rfl) ?_
   show ∃ _, _
   have hs := hs.front .t6
   have hs := hs.front .t5
   have hs := hs.front .t4
   have hs := hs.front .t4
   have hs := hs.front .t4
   have hs := St.cut (G1 := [_, _, _, _, _]) hs
   exact ⟨tb, hshb, nb, bb, nf, ng, (Ext.cons rfl (Ext.cons rfl (Ext.cons rfl (Ext.nil _)))), hs, hf0, hg1, hf3, hf4⟩
  ·
   refine k_quiet (c_kid _ _ 1 b _ (hR.keep hs.keep.sames).kids rfl (hRb.one)) hs (.cons rfl (.cons rfl .nil)) rfl ?_
   rintro _ _ rfl hs _
   refine WL_th ⟨(hs.cell .t2), ?_⟩
   refine h_two 8 12 rfl rfl (ls' := #[true, true, true, true, true, true, true, true, true, true, true, true, false, false, false]) (ls'' := #[true, true, true, true, true, true, true, true, false, true, true, true, true, false, false]) (by kernel_rfl) ?_ ?_
   ·
    refine k_box hs rfl rfl ?_
    intro b32 _ hs
    refine WL_th ⟨(hs.cell .t3), ?_⟩
    refine h_one 12 rfl (ls' := #[true, true, true, true, true, true, true, true, true, true, true, true, true, false, false]) (by kernel_rfl) ?_
    refine k_fresh (hBb _ (Γ.keep _ _ hG hs.keep.sames) (hRb.keep hs.keep.sames)) hs (.cons rfl .nil) rfl ?_
    rintro _ _ _ ⟨tb, rfl, rfl, hshb, hkeyb⟩ hs _
    refine WL_th ⟨(hs.cell .t4), ?_⟩
    refine h_one 13 rfl (ls' := #[true, true, true, true, true, true, true, true, true, true, true, true, true, true, false]) (by kernel_rfl) ?_
    refine k_fresh (c_MappingValue _ _ _ _ _ _) hs (.cons rfl (.cons rfl (.cons rfl .nil))) rfl ?_
    rintro _ _ _ ⟨nb, bb, nf, ng, rfl, rfl, hf0, hg1, hf3, hf4⟩ hs _
    refine WL_th ⟨(hs.cell .t6), ?_⟩
    refine h_pu 14 rfl (ls' := #[true, true, true, true, true, true, true, true, true, true, true, true, true, true, true]) (by kernel_rfl) (fun _ _ _ h => h) rfl (hs.cell .t6) (p_assign rfl) ?_
    refine h_done (by kernel_rfl) ?_
    show ∃ _, _
    have hs := hs.front .t6
    have hs := hs.front .t5
    have hs := hs.front .t4
    have hs := hs.front .t4
    have hs := hs.front .t4
    have hs := St.cut (G1 := [_, _, _, _, _]) hs
    exact ⟨tb, hshb, nb, bb, nf, ng, (Ext.cons rfl (Ext.cons rfl (Ext.cons rfl (Ext.nil _)))), hs, hf0, hg1, hf3, hf4⟩
   ·
    refine k_fresh (hBb _ (Γ.keep _ _ hG hs.keep.sames) (hRb.keep hs.keep.sames)) hs (.cons rfl .nil) rfl ?_
    rintro _ _ _ ⟨tb, rfl, rfl, hshb, hkeyb⟩ hs _
    refine WL_th ⟨(hs.cell .t3), ?_⟩
    refine h_one 8 rfl (ls' := #[true, true, true, true, true, true, true, true, true, true, true, true, true, false, false]) (by kernel_rfl) ?_
    refine k_box hs rfl rfl ?_
    intro b32 _ hs
    refine WL_th ⟨(hs.cell .t4), ?_⟩
    refine h_one 13 rfl (ls' := #[true, true, true, true, true, true, true, true, true, true, true, true, true, true, false]) (by kernel_rfl) ?_
    refine k_fresh (c_MappingValue _ _ _ _ _ _) hs (.cons rfl (.cons rfl (.cons rfl .nil))) rfl ?_
    rintro _ _ _ ⟨nb, bb, nf, ng, rfl, rfl, hf0, hg1, hf3, hf4⟩ hs _
    refine WL_th ⟨(hs.cell .t6), ?_⟩
    refine h_pu 14 rfl (ls' := #[true, true, true, true, true, true, true, true, true, true, true, true, true, true, true]) (by kernel_rfl) (fun _ _ _ h => h) rfl (hs.cell .t6) (p_assign rfl) ?_
    refine h_done (by kernel_rfl) ?_
    show ∃ _, _
    have hs := hs.front .t6
    have hs := hs.front .t5
    have hs := hs.front .t5
    have hs := hs.front .t4
    have hs := hs.front .t4
    have hs := St.cut (G1 := [_, _, _, _, _]) hs
    exact ⟨tb, hshb, nb, bb, nf, ng, (Ext.cons rfl (Ext.cons rfl (Ext.cons rfl (Ext.nil _)))), hs, hf0, hg1, hf3, hf4⟩
 ·
  rintro e1 w1 ⟨tb, hshb, nb, bb, nf, ng, hx, hs, hf0, hg1, hf3, hf4⟩
  refine W_forget hx ?_
  clear hx
  refine W_seq ?_
  refine h_start (S := fun w => w.heap[b1]? = some (.cells (mkA 19 (nc ⟨kind, typ, value, text, origin, flow, pl, pc, po, kv⟩)) 31 (0, 0))) (ls := #[false, false, false, false, false, false, false, false, false, false, false, false, false, false]) (n := 14) (by kernel_rfl) (by kernel_rfl) ?_
  have hs := hs.drew
  refine h_pu 0 rfl (ls' := #[true, false, false, false, false, false, false, false, false, false, false, false, false, false]) (by kernel_rfl) (fun _ _ _ h => h) rfl (hs.cell .t4) (p_move rfl) ?_
  refine h_pu 1 rfl (ls' := #[true, true, false, false, false, false, false, false, false, false, false, false, false, false]) (by kernel_rfl) (fun _ _ _ h => h) rfl (hs.cell .t4) (p_move rfl) ?_
  refine h_pu 2 rfl (ls' := #[true, true, true, false, false, false, false, false, false, false, false, false, false, false]) (by kernel_rfl) (fun _ _ _ h => h) rfl (hs.cell .t4) (p_field rfl) ?_
  refine h_take 3 rfl (ls' := #[true, true, true, true, false, false, false, false, false, false, false, false, false, false]) (by kernel_rfl) (fun _ _ _ h => h) rfl (hs.cell .t4) (fun w hw => q_ld rfl hw rfl) ?_
  refine h_pu 4 rfl (ls' := #[true, true, true, true, true, false, false, false, false, false, false, false, false, false]) (by kernel_rfl) (fun _ _ _ h => h) rfl (hs.cell .t4) (p_field rfl) ?_
  refine h_take 5 rfl (ls' := #[true, true, true, true, true, true, false, false, false, false, false, false, false, false]) (by kernel_rfl) (fun _ _ _ h => h) rfl (hs.cell .t4) (fun w hw => q_ld rfl hw rfl) ?_
  refine h_pu 6 rfl (ls' := #[true, true, true, true, true, true, true, false, false, false, false, false, false, false]) (by kernel_rfl) (fun _ _ _ h => h) rfl (hs.cell .t4) (p_move rfl) ?_
  refine h_one 7 rfl (ls' := #[true, true, true, true, true, true, true, true, false, false, false, false, false, false]) (by kernel_rfl) ?_
  refine k_quiet (c_comments _ _) hs (.cons rfl (.cons rfl .nil)) rfl ?_
  rintro _ _ rfl hs _
  refine WL_th ⟨(hs.cell .t4), ?_⟩
  refine h_pu 8 rfl (ls' := #[true, true, true, true, true, true, true, true, true, false, false, false, false, false]) (by kernel_rfl) (fun _ _ _ h => h) rfl (hs.cell .t4) (p_nilCheck rfl) ?_
  refine h_pu 9 rfl (ls' := #[true, true, true, true, true, true, true, true, true, true, false, false, false, false]) (by kernel_rfl) (fun _ _ _ h => h) rfl (hs.cell .t4) (p_field rfl) ?_
  refine h_one 10 rfl (ls' := #[true, true, true, true, true, true, true, true, true, true, true, false, false, false]) (by kernel_rfl) ?_
  refine k_st hs rfl rfl .head rfl rfl ?_
  intro _ hs
  refine WL_th ⟨(hs.cell .t4), ?_⟩
  refine h_pu 11 rfl (ls' := #[true, true, true, true, true, true, true, true, true, true, true, true, false, false]) (by kernel_rfl) (fun _ _ _ h => h) rfl (hs.cell .t4) (p_nilCheck rfl) ?_
  refine h_pu 12 rfl (ls' := #[true, true, true, true, true, true, true, true, true, true, true, true, true, false]) (by kernel_rfl) (fun _ _ _ h => h) rfl (hs.cell .t4) (p_field rfl) ?_
  refine h_one 13 rfl (ls' := #[true, true, true, true, true, true, true, true, true, true, true, true, true, true]) (by kernel_rfl) ?_
  refine k_st hs rfl rfl .head rfl rfl ?_
  intro _ hs
  refine WL_th ⟨(hs.cell .t4), ?_⟩
  refine h_done (by kernel_rfl) ?_
  show W _ _ _ _ _ _
  refine W_forget (Ext.cd 6 rfl (Ext.nil _)) ?_
  refine W_sr ?_
  refine s_pu (p_move rfl) rfl ?_
  refine s_pu (p_assign rfl) rfl ?_
  refine WL_th ?_
  refine W_ret ?_
  refine ret_tmp (fn := Tryz.f48) rfl rfl ?_
  have hs := hs.front .t2
  have hs := hs.front .t3
  have hs := hs.asts
  have hs := hs.front .t2
  have hs := hs.front .t2
  have hs := hs.seal_node (T := 126) hf0 hg1 (fun w S => .pair hf3 hf4)
  exact hs.first1.fresh ⟨_, rfl, rfl, rfl, by simp [AT.shape, ashapes, Rose.shape, rshapes, hsha, hshb]⟩
end Go.Proofs.YtmalghopogngoaaGreatDoor
set_option linter.unusedVariables false
set_option linter.unusedSimpArgs false
set_option maxRecDepth 4000
namespace Go.Proofs.YtmalghopogngoaaGreatDoor
open Go Go.RowKit MW
theorem rowL_snoc' {v : Value} {T : Nat} {ts : List AT} {z : Nat → Value} {t : AT} {p : AT → Value} (w : World) (S : Foot) (h : (row v T 1 (ts.length + 1) (cat (fun i => (ts.map p)[i]?.getD undef) (ts.length * 1) (updC z 0 (p t)))).on w S) : (rowL v T ((ts ++ [t]).map p)).on w S := by
 rw [List.map_append]
 refine rowL_snoc (z := z) (l := ts.map p) (a := p t) w S ?_
 simpa [List.length_map] using h
theorem rowL_map {v : Value} {T : Nat} {ts : List AT} {p : AT → Value} (w : World) (S : Foot) (h : (rowL v T (ts.map p)).on w S) : (row v T 1 ts.length (fun i => (ts.map p)[i]?.getD undef)).on w S := by
 unfold rowL at h
 rwa [List.length_map] at h
theorem take_succ_snoc {ks : List Rose} {i : Nat} {k : Rose} (h : ks[i]? = some k) : rshapes (ks.take (i + 1)) = rshapes (ks.take i) ++ [k.shape] := by
 have hlt := (List.getElem?_eq_some_iff.1 h).1
 have : ks.take (i + 1) = ks.take i ++ [k] := by rw [List.take_add_one, h]; rfl
 rw [this]
 clear this
 induction ks.take i with
 | nil => rfl
 | cons a l ih => simp [rshapes, ih]
theorem ashapes_snoc (ts : List AT) (t : AT) : ashapes (ts ++ [t]) = ashapes ts ++ [t.shape] := by
 induction ts with
 | nil => rfl
 | cons a l ih => simp [ashapes, ih]
theorem c_pairs {Γ : Glob} (v : Value) (ks : List Rose) (w : World) (hG : Γ.p w) (hlen : ks.length ≤ 1000000) (hk : KidsAt w v ks) (hR : ∀ k ∈ ks, RepN w k) (hP : ∀ k ∈ ks, PairOK Γ k) : Fresh Tryz.prog 46 [v] w fun u G => ∃ ts : List AT, G = [rowL u 126 (ts.map AT.ptr), astL ts] ∧ (∀ t ∈ ts, t.T = 126) ∧ ashapes ts = rshapes ks ∧ ts.length = ks.length := by
 have hs := St.startNone w
 obtain ⟨ad, cap, rfl, hall⟩ := hk.out
 refine calls_W (args := [_]) Tryz.func46 rfl Tryz.ntmps46 rfl ?_
 refine W_sr ?_
 refine s_pu (p_assign rfl) rfl ?_
 refine WL_th ?_
 refine W_sr ?_
 refine s_pu (p_assign rfl) rfl ?_
 refine WL_th ?_
 refine W_seq ?_
 refine W_sr ?_
 refine s_pu (p_move rfl) rfl ?_
 refine s_pu (p_lenL rfl) rfl ?_
 refine s_pu (p_move rfl) rfl ?_
 refine WL_th ?_
 refine W_block ?_
 generalize hws : w = ws at hs hall hR hG
 have hall := hall
 have hR := hR
 have hG := hG
 refine W_loop (α := List AT × Value) (fun x => (upd (upd (upd (upd emp 10 (.int .i64 x.1.length)) 9 (.int .i64 ks.length)) 8 (.slice ad ks.length cap)) 3 x.2)) (fun x w => x.1.length ≤ ks.length ∧ (∀ t ∈ x.1, t.T = 126) ∧ ashapes x.1 = rshapes (ks.take x.1.length) ∧ St ws (fun _ => False) w [rowL x.2 126 (x.1.map AT.ptr), astL x.1]) (fun x => ks.length - x.1.length) ([], .slice none 0 0) (Ext.cons rfl (Ext.cons rfl (Ext.cons rfl (Ext.cons rfl (Ext.nil _))))) ⟨Nat.zero_le _, by simp, rfl, (hs.nilA).rowNil 126 1 _⟩ (fun x w hx => ?_)
 obtain ⟨hle, hT, hsh, hs⟩ := hx
 refine W_sr ?_
 refine s_pu (p_ltI rfl rfl) rfl ?_
 refine WL_th ?_
 refine W_seq ?_
 refine W_if rfl (fun h11 => ?_) (fun h11 => ?_)
 ·
  have hlt : x.1.length < ks.length := by simpa using h11
  obtain ⟨k, hki⟩ : ∃ k, ks[x.1.length]? = some k := ⟨_, List.getElem?_eq_getElem hlt⟩
  have hkm := List.mem_of_getElem? hki
  have hRk := hR k hkm
  refine W_skip_th ?_
  refine W_seq ?_
  refine W_block ?_
  refine W_sr ?_
  obtain ⟨b, rfl, hcell⟩ := hall _ _ hki
  refine s_pu (p_elem rfl rfl (by omega) (by omega)) rfl ?_
  have hcell1 := cell_old hs hcell
  refine s_at (m_loadA (n := 19) (g := nc k.n) rfl (by rw [Int.toNat_natCast]; exact hcell1)) rfl ?_
  refine k_alloc hs rfl ?_
  intro b5 _ hs
  refine k_stW hs rfl rfl .head (nc_one hRk.one) ?_
  intro _ hs
  refine WL_th ?_
  refine W_sr ?_
  refine k_ldW hs rfl .head rfl ?_
  refine k_fresh (hP k hkm _ (Γ.keep _ _ hG hs.keep.sames) (hRk.keep hs.keep.sames)) hs (.cons rfl .nil) rfl ?_
  rintro _ _ _ ⟨t, rfl, htT, rfl, hsht⟩ hs _
  refine s_pu (p_assign rfl) rfl ?_
  refine WL_th ?_
  refine W_seq ?_
  refine W_seq ?_
  refine h_start (S := fun w => w.heap[b5]? = some (.cells (mkA 19 (nc k.n)) 31 (0, 0))) (ls := #[false, false, false, false, false, false, false]) (n := 7) (by kernel_rfl) (by kernel_rfl) ?_
  have hs := hs.drew
  refine h_pu 0 rfl (ls' := #[true, false, false, false, false, false, false]) (by kernel_rfl) (fun _ _ _ h => h) rfl (hs.cell .t1) (p_field rfl) ?_
  refine h_take 1 rfl (ls' := #[true, true, false, false, false, false, false]) (by kernel_rfl) (fun _ _ _ h => h) rfl (hs.cell .t1) (fun w hw => q_ld rfl hw rfl) ?_
  refine h_pu 2 rfl (ls' := #[true, true, true, false, false, false, false]) (by kernel_rfl) (fun _ _ _ h => h) rfl (hs.cell .t1) (p_field rfl) ?_
  refine h_take 3 rfl (ls' := #[true, true, true, true, false, false, false]) (by kernel_rfl) (fun _ _ _ h => h) rfl (hs.cell .t1) (fun w hw => q_ldA rfl hw rfl) ?_
  refine h_one 4 rfl (ls' := #[true, true, true, true, true, false, false]) (by kernel_rfl) ?_
  refine k_fresh (c_position _ _ _ _ _ _) hs (.cons rfl .nil) rfl ?_
  rintro _ _ _ ⟨p20, pf20, rfl, rfl⟩ hs _
  refine WL_th ⟨(hs.cell .t2), ?_⟩
  refine h_one 5 rfl (ls' := #[true, true, true, true, true, true, false]) (by kernel_rfl) ?_
  refine k_quiet (c_comments _ _) hs (.cons rfl (.cons rfl .nil)) rfl ?_
  rintro _ _ rfl hs _
  refine WL_th ⟨(hs.cell .t2), ?_⟩
  refine h_pu 6 rfl (ls' := #[true, true, true, true, true, true, true]) (by kernel_rfl) (fun _ _ _ h => h) rfl (hs.cell .t2) (p_assign rfl) ?_
  refine h_done (by kernel_rfl) ?_
  show W _ _ _ _ _ _
  refine W_forget (Ext.cd 3 rfl (Ext.cd 6 rfl (Ext.cd 7 rfl (Ext.cd 8 rfl (Ext.cd 9 rfl (Ext.cd 10 rfl (Ext.nil _))))))) ?_
  refine W_sr ?_
  refine s_pu (p_move rfl) rfl ?_
  refine s_pu (p_neN (by kernel_rfl) rfl) rfl ?_
  refine WL_th ?_
  refine W_false rfl ?_
  refine W_skip_th ?_
  refine W_reg ?_
  refine s_pu (p_move rfl) rfl ?_
  refine s_pu (p_move rfl) rfl ?_
  refine k_bs hs (.one rfl rfl rfl .nil) rfl rfl rfl ?_
  intro b32 _ hs
  have hs := hs.front .t4
  have hs := hs.imp .head rowL_map
  refine k_app (n := x.1.length) hs rfl rfl .head rfl (by intro i hi; have h0 : i = 0 := (by omega); subst h0; rfl) (by omega) (by omega) rfl ?_
  intro v33 _ hs
  refine s_pu (p_assign rfl) rfl ?_
  refine WL_nil ?_
  show W _ _ _ _ _ _
  refine W_reg ?_
  refine s_pu (p_addI rfl rfl ?_) rfl ?_
  ·
   (first | assumption | omega)
  refine s_pu (p_move rfl) rfl ?_
  refine WL_th ?_
  have hs := hs.front .t3
  have hs := hs.front .t5
  have hs := hs.asts
  have hs := hs.front .head
  have hs := hs.front .t1
  have hs := St.cut (G1 := [_, _]) hs
  have hs := hs.imp .head rowL_snoc' 
  refine ⟨(x.1 ++ [t], v33), (Ext.cons rfl (Ext.cons rfl (Ext.cons rfl (Ext.cons (by show some (Value.int .i64 ((x.1.length : Int) + 1)) = _; simp) (Ext.nil _))))), ⟨by simp; omega, ?_, ?_, hs⟩, ?_⟩
  ·
   intro t' ht'
   rcases List.mem_append.1 ht' with h | h
   ·
    exact hT _ h
   ·
    rw [List.mem_singleton] at h; subst h; exact htT
  ·
   rw [ashapes_snoc, hsh, hsht, ← take_succ_snoc hki]; simp
  ·
   simp; omega
 ·
  refine W_exit ?_
  show W _ _ _ _ _ _
  refine W_sr ?_
  refine s_pu (p_move rfl) rfl ?_
  refine s_pu (p_assign rfl) rfl ?_
  refine WL_th ?_
  refine W_ret ?_
  refine ret_tmp (fn := Tryz.f46) rfl rfl ?_
  have hlen2 : x.1.length = ks.length := by have : ¬ (x.1.length < ks.length) := (by simpa using h11); omega
  exact hs.fresh ⟨_, rfl, hT, by rw [hsh, hlen2, List.take_length], hlen2⟩
end Go.Proofs.YtmalghopogngoaaGreatDoor
set_option linter.unusedVariables false
set_option linter.unusedSimpArgs false
set_option maxRecDepth 4000
namespace Go.Proofs.YtmalghopogngoaaGreatDoor
open Go Go.RowKit MW
theorem c_sequence {Γ : Glob} (n : NRec) (ks : List Rose) (hkind : n.kind = 14) (hlen : ks.length ≤ 1000000) (hB : ∀ k ∈ ks, BuildOK Γ k) (tb : Nat) (ttyp : Int) (ts0 to : ByteArray) (pb : Nat) (w : World) (hG : Γ.p w) (ht : w.heap[tb]? = some (.cells (mkA 9 (tokC ttyp ts0 to pb)) 71 (0, 0))) (hR : RepN w (.mk n ks)) :
  Fresh Tryz.prog 49 [.agg (mkA 19 (nc n)), .pointer (some ⟨tb, 0, none⟩)] w (BuildR (.mk n ks)) := by
 have hs := St.startNone w
 have hRk : ∀ k ∈ ks, RepN w k := hR.all
 have hone := hR.one
 have hK := hR.kids
 obtain ⟨kind, typ, value, text, origin, flow, pl, pc, po, kv⟩ := n
 obtain ⟨ad, cap, hv, hall⟩ := hK.out
 obtain rfl : kv = .slice ad ks.length cap := hv
 generalize hws : w = ws at hs hall hRk ht hG
 refine calls_W (args := [_, _]) Tryz.func49 rfl Tryz.ntmps49 rfl ?_
 refine W_sr ?_
 refine k_box hs rfl rfl ?_
 intro b2 _ hs
 refine s_pu (p_assign rfl) rfl ?_
 refine WL_th ?_
 refine W_sr ?_
 refine s_pu (p_move rfl) rfl ?_
 refine s_pu (p_field rfl) rfl ?_
 refine k_ld hs rfl .head rfl rfl ?_
 refine k_fresh (c_Sequence _ _ _) hs (.cons rfl (.cons rfl .nil)) rfl ?_
 rintro _ _ _ ⟨b, bb, rb, rfl, rfl⟩ hs _
 refine s_pu (p_assign rfl) rfl ?_
 refine WL_th ?_
 refine W_seq ?_
 refine W_sr ?_
 refine s_pu (p_field rfl) rfl ?_
 refine k_ld hs rfl .t3 rfl rfl ?_
 refine s_pu (p_lenL rfl) rfl ?_
 refine s_pu (p_move rfl) rfl ?_
 refine WL_th ?_
 refine W_block ?_
 have hs := (hs.nilA).rowNil 72 1 (fun _ => undef)
 have hs := hs.front .t5
 have hs := hs.front .t5
 have hs := hs.front .t3
 have hs := hs.front .t3
 have hs := hs.front .t5
 have hs := hs.front .t5
 have hs := hs.imp .t1 (row_to (g := fun i => (List.map AT.val [])[i]?.getD undef) (fun i h => by omega))
 refine W_loop (α := List AT × Value × Value) (fun x => (upd (upd (upd (upd (upd (upd emp 15 (.int .i64 x.1.length)) 14 (.int .i64 ks.length)) 13 (.slice ad ks.length cap)) 5 (.pointer (some ⟨b, 0, none⟩))) 2 (.pointer (some ⟨b2, 0, none⟩))) 1 (.pointer (some ⟨tb, 0, none⟩)))) (fun x w => x.1.length ≤ ks.length ∧ ashapes x.1 = rshapes (ks.take x.1.length) ∧ ∃ hf, St ws (fun _ => False) w [pt b 179 8 (cl [.pointer (some ⟨bb, 0, none⟩), .pointer (some ⟨tb, 0, none⟩), .pointer none, .bool flow, x.2.1, x.2.2, .slice none 0 0, .pointer none]), rowL x.2.1 48 (x.1.map AT.val), row x.2.2 72 1 x.1.length hf, astL x.1, pt bb 191 3 (cl [.string ⟨#[]⟩, .pointer none, .int .i64 0]), pt b2 31 19 (nc ⟨kind, typ, value, text, origin, flow, pl, pc, po, .slice ad ks.length cap⟩)]) (fun x => ks.length - x.1.length) ([], .slice (some ⟨rb, 0, none⟩) 0 0, .slice none 0 0) (Ext.cons rfl (Ext.cons rfl (Ext.cons rfl (Ext.cons rfl (Ext.cons rfl (Ext.cons rfl (Ext.nil _))))))) ⟨Nat.zero_le _, rfl, _, hs⟩ (fun x w hx => ?_)
 obtain ⟨hle, hsh, hf, hs⟩ := hx
 refine W_sr ?_
 refine s_pu (p_ltI rfl rfl) rfl ?_
 refine WL_th ?_
 refine W_seq ?_
 refine W_if rfl (fun h11 => ?_) (fun h11 => ?_)
 ·
  have hlt : x.1.length < ks.length := by simpa using h11
  obtain ⟨k, hki⟩ : ∃ k, ks[x.1.length]? = some k := ⟨_, List.getElem?_eq_getElem hlt⟩
  have hkm := List.mem_of_getElem? hki
  have hRk1 := hRk k hkm
  refine W_skip_th ?_
  refine W_join (fun e' w' => ∃ t : AT, t.shape = k.shape ∧ ∃ u5 u6 hf6, Ext e' (upd (upd (upd (upd (upd (upd emp 15 (.int .i64 x.1.length)) 14 (.int .i64 ks.length)) 13 (.slice ad ks.length cap)) 5 (.pointer (some ⟨b, 0, none⟩))) 2 (.pointer (some ⟨b2, 0, none⟩))) 1 (.pointer (some ⟨tb, 0, none⟩))) ∧ St ws (fun _ => False) w' [pt b 179 8 (updC (cl [.pointer (some ⟨bb, 0, none⟩), .pointer (some ⟨tb, 0, none⟩), .pointer none, .bool flow, u5, x.2.2, .slice none 0 0, .pointer none]) (0 + 5) u6), row u5 48 1 (x.1.length + 1) (cat (fun i => (x.1.map AT.val)[i]?.getD undef) (x.1.length * 1) (updC (fun _ => undef) 0 t.val)), row u6 72 1 (x.1.length + 1) hf6, astL [t], astL x.1, pt bb 191 3 (cl [.string ⟨#[]⟩, .pointer none, .int .i64 0]), pt b2 31 19 (nc ⟨kind, typ, value, text, origin, flow, pl, pc, po, .slice ad ks.length cap⟩)]) ?_ ?_
  ·
   refine W_block ?_
   refine W_sr ?_
   obtain ⟨b0, rfl, hcell⟩ := hall _ _ hki
   refine s_pu (p_elem rfl rfl (by omega) (by omega)) rfl ?_
   have hcell1 := cell_old hs hcell
   refine s_at (m_loadA (n := 19) (g := nc k.n) rfl (by rw [Int.toNat_natCast]; exact hcell1)) rfl ?_
   refine k_alloc hs rfl ?_
   intro b7 _ hs
   refine k_stW hs rfl rfl .head (nc_one hRk1.one) ?_
   intro _ hs
   refine WL_th ?_
   refine W_join (fun e' w' => ∃ t : AT, t.shape = k.shape ∧ ∃ u5, Ext e' (upd (upd (upd (upd (upd (upd (upd emp 15 (.int .i64 x.1.length)) 14 (.int .i64 ks.length)) 13 (.slice (some ⟨b0, 0, none⟩) ks.length cap)) 7 (.pointer (some ⟨b7, 0, none⟩))) 5 (.pointer (some ⟨b, 0, none⟩))) 2 (.pointer (some ⟨b2, 0, none⟩))) 1 (.pointer (some ⟨tb, 0, none⟩))) ∧ St ws (fun _ => False) w' [pt b 179 8 (updC (cl [.pointer (some ⟨bb, 0, none⟩), .pointer (some ⟨tb, 0, none⟩), .pointer none, .bool flow, x.2.1, x.2.2, .slice none 0 0, .pointer none]) (0 + 4) u5), row u5 48 1 (x.1.length + 1) (cat (fun i => (x.1.map AT.val)[i]?.getD undef) (x.1.length * 1) (updC (fun _ => undef) 0 t.val)), row x.2.2 72 1 x.1.length hf, astL [t], astL x.1, pt bb 191 3 (cl [.string ⟨#[]⟩, .pointer none, .int .i64 0]), pt b2 31 19 (nc ⟨kind, typ, value, text, origin, flow, pl, pc, po, .slice (some ⟨b0, 0, none⟩) ks.length cap⟩), pt b7 31 19 (nc k.n)]) ?_ ?_
   ·
    refine h_start (S := fun w => w.heap[b7]? = some (.cells (mkA 19 (nc k.n)) 31 (0, 0))) (ls := #[false, false, false, false, false, false, false, false, false, false, false, false]) (n := 12) (by kernel_rfl) (by kernel_rfl) ?_
    have hs := hs.drew
    refine h_pu 0 rfl (ls' := #[true, false, false, false, false, false, false, false, false, false, false, false]) (by kernel_rfl) (fun _ _ _ h => h) rfl (hs.cell .head) (p_move rfl) ?_
    refine h_pu 1 rfl (ls' := #[true, true, false, false, false, false, false, false, false, false, false, false]) (by kernel_rfl) (fun _ _ _ h => h) rfl (hs.cell .head) (p_move rfl) ?_
    refine h_pu 2 rfl (ls' := #[true, true, true, false, false, false, false, false, false, false, false, false]) (by kernel_rfl) (fun _ _ _ h => h) rfl (hs.cell .head) (p_nilCheck rfl) ?_
    refine h_pu 3 rfl (ls' := #[true, true, true, true, false, false, false, false, false, false, false, false]) (by kernel_rfl) (fun _ _ _ h => h) rfl (hs.cell .head) (p_field rfl) ?_
    refine h_take 5 rfl (ls' := #[true, true, true, true, false, true, false, false, false, false, false, false]) (by kernel_rfl) (fun _ _ _ h => h) rfl (hs.cell .head) (fun w hw => q_ldW rfl hw) ?_
    refine h_two 4 6 rfl rfl (ls' := #[true, true, true, true, true, true, false, false, false, false, false, false]) (ls'' := #[true, true, true, true, false, true, true, false, false, false, false, false]) (by kernel_rfl) ?_ ?_
    ·
     refine k_ld hs rfl .t1 rfl rfl ?_
     refine WL_th ⟨(hs.cell .head), ?_⟩
     refine h_one 6 rfl (ls' := #[true, true, true, true, true, true, true, false, false, false, false, false]) (by kernel_rfl) ?_
     refine k_fresh (hB k hkm _ (Γ.keep _ _ hG hs.keep.sames) (hRk1.keep hs.keep.sames)) hs (.cons rfl .nil) rfl ?_
     rintro _ _ _ ⟨t, rfl, rfl, hsht, _⟩ hs _
     refine WL_th ⟨(hs.cell .t1), ?_⟩
     refine h_one 7 rfl (ls' := #[true, true, true, true, true, true, true, true, false, false, false, false]) (by kernel_rfl) ?_
     refine k_bs hs (.one rfl rfl rfl .nil) rfl rfl rfl ?_
     intro b26 _ hs
     refine WL_th ⟨(hs.cell .t2), ?_⟩
     refine h_one 8 rfl (ls' := #[true, true, true, true, true, true, true, true, true, false, false, false]) (by kernel_rfl) ?_
     have hs := hs.imp .t4 rowL_map
     have hs := hs.front .t4
     refine k_app (n := x.1.length) hs rfl rfl .head rfl (by intro i hi; have h0 : i = 0 := (by omega); subst h0; rfl) (by omega) (by omega) rfl ?_
     intro v27 _ hs
     refine WL_th ⟨(hs.cell .t3), ?_⟩
     refine h_pu 9 rfl (ls' := #[true, true, true, true, true, true, true, true, true, true, false, false]) (by kernel_rfl) (fun _ _ _ h => h) rfl (hs.cell .t3) (p_nilCheck rfl) ?_
     refine h_pu 10 rfl (ls' := #[true, true, true, true, true, true, true, true, true, true, true, false]) (by kernel_rfl) (fun _ _ _ h => h) rfl (hs.cell .t3) (p_field rfl) ?_
     refine h_one 11 rfl (ls' := #[true, true, true, true, true, true, true, true, true, true, true, true]) (by kernel_rfl) ?_
     refine k_st hs rfl rfl .t4 (row_one (hs.pick .head)) rfl ?_
     intro _ hs
     refine WL_th ⟨(hs.cell .t3), ?_⟩
     refine h_done (by kernel_rfl) ?_
     show ∃ _, _
     have hs := hs.front .t3
     have hs := hs.front .t8
     have hs := hs.front .t8
     have hs := hs.front .t8
     have hs := hs.front .t6
     have hs := hs.front .t8
     have hs := hs.front .t6
     have hs := hs.front .t8
     have hs := St.cut (G1 := [_, _, _, _, _, _, _, _]) hs
     exact ⟨t, hsht, v27, (Ext.cons rfl (Ext.cons rfl (Ext.cons rfl (Ext.cons rfl (Ext.cons rfl (Ext.cons rfl (Ext.cons rfl (Ext.nil _)))))))), hs⟩
    ·
     refine k_fresh (hB k hkm _ (Γ.keep _ _ hG hs.keep.sames) (hRk1.keep hs.keep.sames)) hs (.cons rfl .nil) rfl ?_
     rintro _ _ _ ⟨t, rfl, rfl, hsht, _⟩ hs _
     refine WL_th ⟨(hs.cell .t1), ?_⟩
     refine h_two 4 7 rfl rfl (ls' := #[true, true, true, true, true, true, true, false, false, false, false, false]) (ls'' := #[true, true, true, true, false, true, true, true, false, false, false, false]) (by kernel_rfl) ?_ ?_
     ·
      refine k_ld hs rfl .t2 rfl rfl ?_
      refine WL_th ⟨(hs.cell .t1), ?_⟩
      refine h_one 7 rfl (ls' := #[true, true, true, true, true, true, true, true, false, false, false, false]) (by kernel_rfl) ?_
      refine k_bs hs (.one rfl rfl rfl .nil) rfl rfl rfl ?_
      intro b26 _ hs
      refine WL_th ⟨(hs.cell .t2), ?_⟩
      refine h_one 8 rfl (ls' := #[true, true, true, true, true, true, true, true, true, false, false, false]) (by kernel_rfl) ?_
      have hs := hs.imp .t4 rowL_map
      have hs := hs.front .t4
      refine k_app (n := x.1.length) hs rfl rfl .head rfl (by intro i hi; have h0 : i = 0 := (by omega); subst h0; rfl) (by omega) (by omega) rfl ?_
      intro v27 _ hs
      refine WL_th ⟨(hs.cell .t3), ?_⟩
      refine h_pu 9 rfl (ls' := #[true, true, true, true, true, true, true, true, true, true, false, false]) (by kernel_rfl) (fun _ _ _ h => h) rfl (hs.cell .t3) (p_nilCheck rfl) ?_
      refine h_pu 10 rfl (ls' := #[true, true, true, true, true, true, true, true, true, true, true, false]) (by kernel_rfl) (fun _ _ _ h => h) rfl (hs.cell .t3) (p_field rfl) ?_
      refine h_one 11 rfl (ls' := #[true, true, true, true, true, true, true, true, true, true, true, true]) (by kernel_rfl) ?_
      refine k_st hs rfl rfl .t4 (row_one (hs.pick .head)) rfl ?_
      intro _ hs
      refine WL_th ⟨(hs.cell .t3), ?_⟩
      refine h_done (by kernel_rfl) ?_
      show ∃ _, _
      have hs := hs.front .t3
      have hs := hs.front .t8
      have hs := hs.front .t8
      have hs := hs.front .t8
      have hs := hs.front .t6
      have hs := hs.front .t8
      have hs := hs.front .t6
      have hs := hs.front .t8
      have hs := St.cut (G1 := [_, _, _, _, _, _, _, _]) hs
      exact ⟨t, hsht, v27, (Ext.cons rfl (Ext.cons rfl (Ext.cons rfl (Ext.cons rfl (Ext.cons rfl (Ext.cons rfl (Ext.cons rfl (Ext.nil _)))))))), hs⟩
     ·
      refine k_bs hs (.one rfl rfl rfl .nil) rfl rfl rfl ?_
      intro b26 _ hs
      refine WL_th ⟨(hs.cell .t2), ?_⟩
      refine h_one 4 rfl (ls' := #[true, true, true, true, true, true, true, true, false, false, false, false]) (by kernel_rfl) ?_
      refine k_ld hs rfl .t3 rfl rfl ?_
      refine WL_th ⟨(hs.cell .t2), ?_⟩
      refine h_one 8 rfl (ls' := #[true, true, true, true, true, true, true, true, true, false, false, false]) (by kernel_rfl) ?_
      have hs := hs.imp .t4 rowL_map
      have hs := hs.front .t4
      refine k_app (n := x.1.length) hs rfl rfl .head rfl (by intro i hi; have h0 : i = 0 := (by omega); subst h0; rfl) (by omega) (by omega) rfl ?_
      intro v27 _ hs
      refine WL_th ⟨(hs.cell .t3), ?_⟩
      refine h_pu 9 rfl (ls' := #[true, true, true, true, true, true, true, true, true, true, false, false]) (by kernel_rfl) (fun _ _ _ h => h) rfl (hs.cell .t3) (p_nilCheck rfl) ?_
      refine h_pu 10 rfl (ls' := #[true, true, true, true, true, true, true, true, true, true, true, false]) (by kernel_rfl) (fun _ _ _ h => h) rfl (hs.cell .t3) (p_field rfl) ?_
      refine h_one 11 rfl (ls' := #[true, true, true, true, true, true, true, true, true, true, true, true]) (by kernel_rfl) ?_
      refine k_st hs rfl rfl .t4 (row_one (hs.pick .head)) rfl ?_
      intro _ hs
      refine WL_th ⟨(hs.cell .t3), ?_⟩
      refine h_done (by kernel_rfl) ?_
      show ∃ _, _
      have hs := hs.front .t3
      have hs := hs.front .t8
      have hs := hs.front .t8
      have hs := hs.front .t8
      have hs := hs.front .t6
      have hs := hs.front .t8
      have hs := hs.front .t6
      have hs := hs.front .t8
      have hs := St.cut (G1 := [_, _, _, _, _, _, _, _]) hs
      exact ⟨t, hsht, v27, (Ext.cons rfl (Ext.cons rfl (Ext.cons rfl (Ext.cons rfl (Ext.cons rfl (Ext.cons rfl (Ext.cons rfl (Ext.nil _)))))))), hs⟩
   ·
    rintro e1 w1 ⟨t, hsht, u5, hx, hs⟩
    refine W_forget hx ?_
    clear hx
    have hs := hs.imp .head (pt_to (g := cl [.pointer (some ⟨bb, 0, none⟩), .pointer (some ⟨tb, 0, none⟩), .pointer none, .bool flow, u5, x.2.2, .slice none 0 0, .pointer none]) (by repeat (first | exact below_zero | refine below_succ ?_ rfl)))
    refine h_start (S := fun w => w.heap[b7]? = some (.cells (mkA 19 (nc k.n)) 31 (0, 0))) (ls := #[false, false, false, false, false, false, false, false, false, false, false, false, false, false, false, false]) (n := 16) (by kernel_rfl) (by kernel_rfl) ?_
    have hs := hs.drew
    refine h_pu 0 rfl (ls' := #[true, false, false, false, false, false, false, false, false, false, false, false, false, false, false, false]) (by kernel_rfl) (fun _ _ _ h => h) rfl (hs.cell .t7) (p_move rfl) ?_
    refine h_pu 1 rfl (ls' := #[true, true, false, false, false, false, false, false, false, false, false, false, false, false, false, false]) (by kernel_rfl) (fun _ _ _ h => h) rfl (hs.cell .t7) (p_move rfl) ?_
    refine h_pu 2 rfl (ls' := #[true, true, true, false, false, false, false, false, false, false, false, false, false, false, false, false]) (by kernel_rfl) (fun _ _ _ h => h) rfl (hs.cell .t7) (p_nilCheck rfl) ?_
    refine h_pu 3 rfl (ls' := #[true, true, true, true, false, false, false, false, false, false, false, false, false, false, false, false]) (by kernel_rfl) (fun _ _ _ h => h) rfl (hs.cell .t7) (p_field rfl) ?_
    refine h_pu 5 rfl (ls' := #[true, true, true, true, false, true, false, false, false, false, false, false, false, false, false, false]) (by kernel_rfl) (fun _ _ _ h => h) rfl (hs.cell .t7) (p_field rfl) ?_
    refine h_take 6 rfl (ls' := #[true, true, true, true, false, true, true, false, false, false, false, false, false, false, false, false]) (by kernel_rfl) (fun _ _ _ h => h) rfl (hs.cell .t7) (fun w hw => q_ld rfl hw rfl) ?_
    refine h_pu 7 rfl (ls' := #[true, true, true, true, false, true, true, true, false, false, false, false, false, false, false, false]) (by kernel_rfl) (fun _ _ _ h => h) rfl (hs.cell .t7) (p_field rfl) ?_
    refine h_take 8 rfl (ls' := #[true, true, true, true, false, true, true, true, true, false, false, false, false, false, false, false]) (by kernel_rfl) (fun _ _ _ h => h) rfl (hs.cell .t7) (fun w hw => q_ldA rfl hw rfl) ?_
    refine h_two 4 9 rfl rfl (ls' := #[true, true, true, true, true, true, true, true, true, false, false, false, false, false, false, false]) (ls'' := #[true, true, true, true, false, true, true, true, true, true, false, false, false, false, false, false]) (by kernel_rfl) ?_ ?_
    ·
     refine k_ld hs rfl .head rfl rfl ?_
     refine WL_th ⟨(hs.cell .t7), ?_⟩
     refine h_one 9 rfl (ls' := #[true, true, true, true, true, true, true, true, true, true, false, false, false, false, false, false]) (by kernel_rfl) ?_
     refine k_fresh (c_position _ _ _ _ _ _) hs (.cons rfl .nil) rfl ?_
     rintro _ _ _ ⟨p39, pf39, rfl, rfl⟩ hs _
     refine WL_th ⟨(hs.cell .t8), ?_⟩
     refine h_one 10 rfl (ls' := #[true, true, true, true, true, true, true, true, true, true, true, false, false, false, false, false]) (by kernel_rfl) ?_
     refine k_quiet (c_comments _ _) hs (.cons rfl (.cons rfl .nil)) rfl ?_
     rintro _ _ rfl hs _
     refine WL_th ⟨(hs.cell .t8), ?_⟩
     refine h_one 11 rfl (ls' := #[true, true, true, true, true, true, true, true, true, true, true, true, false, false, false, false]) (by kernel_rfl) ?_
     refine k_bs hs (.one rfl rfl rfl .nil) rfl rfl rfl ?_
     intro b41 _ hs
     refine WL_th ⟨(hs.cell .t9), ?_⟩
     refine h_one 12 rfl (ls' := #[true, true, true, true, true, true, true, true, true, true, true, true, true, false, false, false]) (by kernel_rfl) ?_
     have hs := hs.front .t4
     refine k_app (n := x.1.length) hs rfl rfl .head rfl (by intro i hi; have h0 : i = 0 := (by omega); subst h0; rfl) (by omega) (by omega) rfl ?_
     intro v42 _ hs
     refine WL_th ⟨(hs.cell .t9), ?_⟩
     refine h_pu 13 rfl (ls' := #[true, true, true, true, true, true, true, true, true, true, true, true, true, true, false, false]) (by kernel_rfl) (fun _ _ _ h => h) rfl (hs.cell .t9) (p_nilCheck rfl) ?_
     refine h_pu 14 rfl (ls' := #[true, true, true, true, true, true, true, true, true, true, true, true, true, true, true, false]) (by kernel_rfl) (fun _ _ _ h => h) rfl (hs.cell .t9) (p_field rfl) ?_
     refine h_one 15 rfl (ls' := #[true, true, true, true, true, true, true, true, true, true, true, true, true, true, true, true]) (by kernel_rfl) ?_
     refine k_st hs rfl rfl .t3 (row_one (hs.pick .head)) rfl ?_
     intro _ hs
     refine WL_th ⟨(hs.cell .t9), ?_⟩
     refine h_done (by kernel_rfl) ?_
     show ∃ _, _
     have hs := hs.front .t8
     have hs := hs.front .t8
     have hs := hs.front .t8
     have hs := hs.front .t8
     have hs := hs.front .t4
     have hs := hs.front .t8
     have hs := hs.front .t8
     have hs := St.cut (G1 := [_, _, _, _, _, _, _]) hs
     exact ⟨t, hsht, u5, v42, _, (Ext.cons rfl (Ext.cons rfl (Ext.cons rfl (Ext.cons rfl (Ext.cons rfl (Ext.cons rfl (Ext.nil _))))))), hs⟩
    ·
     refine k_fresh (c_position _ _ _ _ _ _) hs (.cons rfl .nil) rfl ?_
     rintro _ _ _ ⟨p39, pf39, rfl, rfl⟩ hs _
     refine WL_th ⟨(hs.cell .t8), ?_⟩
     refine h_two 4 10 rfl rfl (ls' := #[true, true, true, true, true, true, true, true, true, true, false, false, false, false, false, false]) (ls'' := #[true, true, true, true, false, true, true, true, true, true, true, false, false, false, false, false]) (by kernel_rfl) ?_ ?_
     ·
      refine k_ld hs rfl .t1 rfl rfl ?_
      refine WL_th ⟨(hs.cell .t8), ?_⟩
      refine h_one 10 rfl (ls' := #[true, true, true, true, true, true, true, true, true, true, true, false, false, false, false, false]) (by kernel_rfl) ?_
      refine k_quiet (c_comments _ _) hs (.cons rfl (.cons rfl .nil)) rfl ?_
      rintro _ _ rfl hs _
      refine WL_th ⟨(hs.cell .t8), ?_⟩
      refine h_one 11 rfl (ls' := #[true, true, true, true, true, true, true, true, true, true, true, true, false, false, false, false]) (by kernel_rfl) ?_
      refine k_bs hs (.one rfl rfl rfl .nil) rfl rfl rfl ?_
      intro b41 _ hs
      refine WL_th ⟨(hs.cell .t9), ?_⟩
      refine h_one 12 rfl (ls' := #[true, true, true, true, true, true, true, true, true, true, true, true, true, false, false, false]) (by kernel_rfl) ?_
      have hs := hs.front .t4
      refine k_app (n := x.1.length) hs rfl rfl .head rfl (by intro i hi; have h0 : i = 0 := (by omega); subst h0; rfl) (by omega) (by omega) rfl ?_
      intro v42 _ hs
      refine WL_th ⟨(hs.cell .t9), ?_⟩
      refine h_pu 13 rfl (ls' := #[true, true, true, true, true, true, true, true, true, true, true, true, true, true, false, false]) (by kernel_rfl) (fun _ _ _ h => h) rfl (hs.cell .t9) (p_nilCheck rfl) ?_
      refine h_pu 14 rfl (ls' := #[true, true, true, true, true, true, true, true, true, true, true, true, true, true, true, false]) (by kernel_rfl) (fun _ _ _ h => h) rfl (hs.cell .t9) (p_field rfl) ?_
      refine h_one 15 rfl (ls' := #[true, true, true, true, true, true, true, true, true, true, true, true, true, true, true, true]) (by kernel_rfl) ?_
      refine k_st hs rfl rfl .t3 (row_one (hs.pick .head)) rfl ?_
      intro _ hs
      refine WL_th ⟨(hs.cell .t9), ?_⟩
      refine h_done (by kernel_rfl) ?_
      show ∃ _, _
      have hs := hs.front .t8
      have hs := hs.front .t8
      have hs := hs.front .t8
      have hs := hs.front .t8
      have hs := hs.front .t4
      have hs := hs.front .t8
      have hs := hs.front .t8
      have hs := St.cut (G1 := [_, _, _, _, _, _, _]) hs
      exact ⟨t, hsht, u5, v42, _, (Ext.cons rfl (Ext.cons rfl (Ext.cons rfl (Ext.cons rfl (Ext.cons rfl (Ext.cons rfl (Ext.nil _))))))), hs⟩
     ·
      refine k_quiet (c_comments _ _) hs (.cons rfl (.cons rfl .nil)) rfl ?_
      rintro _ _ rfl hs _
      refine WL_th ⟨(hs.cell .t8), ?_⟩
      refine h_two 4 11 rfl rfl (ls' := #[true, true, true, true, true, true, true, true, true, true, true, false, false, false, false, false]) (ls'' := #[true, true, true, true, false, true, true, true, true, true, true, true, false, false, false, false]) (by kernel_rfl) ?_ ?_
      ·
       refine k_ld hs rfl .t1 rfl rfl ?_
       refine WL_th ⟨(hs.cell .t8), ?_⟩
       refine h_one 11 rfl (ls' := #[true, true, true, true, true, true, true, true, true, true, true, true, false, false, false, false]) (by kernel_rfl) ?_
       refine k_bs hs (.one rfl rfl rfl .nil) rfl rfl rfl ?_
       intro b41 _ hs
       refine WL_th ⟨(hs.cell .t9), ?_⟩
       refine h_one 12 rfl (ls' := #[true, true, true, true, true, true, true, true, true, true, true, true, true, false, false, false]) (by kernel_rfl) ?_
       have hs := hs.front .t4
       refine k_app (n := x.1.length) hs rfl rfl .head rfl (by intro i hi; have h0 : i = 0 := (by omega); subst h0; rfl) (by omega) (by omega) rfl ?_
       intro v42 _ hs
       refine WL_th ⟨(hs.cell .t9), ?_⟩
       refine h_pu 13 rfl (ls' := #[true, true, true, true, true, true, true, true, true, true, true, true, true, true, false, false]) (by kernel_rfl) (fun _ _ _ h => h) rfl (hs.cell .t9) (p_nilCheck rfl) ?_
       refine h_pu 14 rfl (ls' := #[true, true, true, true, true, true, true, true, true, true, true, true, true, true, true, false]) (by kernel_rfl) (fun _ _ _ h => h) rfl (hs.cell .t9) (p_field rfl) ?_
       refine h_one 15 rfl (ls' := #[true, true, true, true, true, true, true, true, true, true, true, true, true, true, true, true]) (by kernel_rfl) ?_
       refine k_st hs rfl rfl .t3 (row_one (hs.pick .head)) rfl ?_
       intro _ hs
       refine WL_th ⟨(hs.cell .t9), ?_⟩
       refine h_done (by kernel_rfl) ?_
       show ∃ _, _
       have hs := hs.front .t8
       have hs := hs.front .t8
       have hs := hs.front .t8
       have hs := hs.front .t8
       have hs := hs.front .t4
       have hs := hs.front .t8
       have hs := hs.front .t8
       have hs := St.cut (G1 := [_, _, _, _, _, _, _]) hs
       exact ⟨t, hsht, u5, v42, _, (Ext.cons rfl (Ext.cons rfl (Ext.cons rfl (Ext.cons rfl (Ext.cons rfl (Ext.cons rfl (Ext.nil _))))))), hs⟩
      ·
       refine k_bs hs (.one rfl rfl rfl .nil) rfl rfl rfl ?_
       intro b41 _ hs
       refine WL_th ⟨(hs.cell .t9), ?_⟩
       refine h_one 4 rfl (ls' := #[true, true, true, true, true, true, true, true, true, true, true, true, false, false, false, false]) (by kernel_rfl) ?_
       refine k_ld hs rfl .t2 rfl rfl ?_
       refine WL_th ⟨(hs.cell .t9), ?_⟩
       refine h_one 12 rfl (ls' := #[true, true, true, true, true, true, true, true, true, true, true, true, true, false, false, false]) (by kernel_rfl) ?_
       have hs := hs.front .t4
       refine k_app (n := x.1.length) hs rfl rfl .head rfl (by intro i hi; have h0 : i = 0 := (by omega); subst h0; rfl) (by omega) (by omega) rfl ?_
       intro v42 _ hs
       refine WL_th ⟨(hs.cell .t9), ?_⟩
       refine h_pu 13 rfl (ls' := #[true, true, true, true, true, true, true, true, true, true, true, true, true, true, false, false]) (by kernel_rfl) (fun _ _ _ h => h) rfl (hs.cell .t9) (p_nilCheck rfl) ?_
       refine h_pu 14 rfl (ls' := #[true, true, true, true, true, true, true, true, true, true, true, true, true, true, true, false]) (by kernel_rfl) (fun _ _ _ h => h) rfl (hs.cell .t9) (p_field rfl) ?_
       refine h_one 15 rfl (ls' := #[true, true, true, true, true, true, true, true, true, true, true, true, true, true, true, true]) (by kernel_rfl) ?_
       refine k_st hs rfl rfl .t3 (row_one (hs.pick .head)) rfl ?_
       intro _ hs
       refine WL_th ⟨(hs.cell .t9), ?_⟩
       refine h_done (by kernel_rfl) ?_
       show ∃ _, _
       have hs := hs.front .t8
       have hs := hs.front .t8
       have hs := hs.front .t8
       have hs := hs.front .t8
       have hs := hs.front .t4
       have hs := hs.front .t8
       have hs := hs.front .t8
       have hs := St.cut (G1 := [_, _, _, _, _, _, _]) hs
       exact ⟨t, hsht, u5, v42, _, (Ext.cons rfl (Ext.cons rfl (Ext.cons rfl (Ext.cons rfl (Ext.cons rfl (Ext.cons rfl (Ext.nil _))))))), hs⟩
  ·
   rintro e1 w1 ⟨t, hsht, u5, u6, hf6, hx, hs⟩
   refine W_forget hx ?_
   clear hx
   have hs := hs.imp .head (pt_to (g := cl [.pointer (some ⟨bb, 0, none⟩), .pointer (some ⟨tb, 0, none⟩), .pointer none, .bool flow, u5, u6, .slice none 0 0, .pointer none]) (by repeat (first | exact below_zero | refine below_succ ?_ rfl)))
   refine W_reg ?_
   refine s_pu (p_addI rfl rfl ?_) rfl ?_
   ·
    (first | assumption | omega)
   refine s_pu (p_move rfl) rfl ?_
   refine WL_th ?_
   have hs := hs.front .t3
   have hs := hs.front .t4
   have hs := hs.asts
   have hs := hs.front .t5
   have hs := hs.front .t5
   have hs := hs.front .t2
   have hs := hs.front .t5
   have hs := hs.front .t5
   have hs := hs.front .t5
   have hs := St.cut (G1 := [_, _, _, _, _, _]) hs
   have hs := hs.imp .t1 rowL_snoc'
   refine ⟨(x.1 ++ [t], u5, u6), (Ext.cons rfl (Ext.cons rfl (Ext.cons rfl (Ext.cons rfl (Ext.cons rfl (Ext.cons (by show some (Value.int .i64 ((x.1.length : Int) + 1)) = _; simp) (Ext.nil _))))))), ⟨by simp; omega, ?_, hf6, ?_⟩, ?_⟩
   ·
    rw [ashapes_snoc, hsh, hsht, ← take_succ_snoc hki]; simp
   ·
    have e1 : (x.1 ++ [t]).length = x.1.length + 1 := by simp
    show St _ _ _ [_, _, row u6 72 1 (x.1 ++ [t]).length _, _, _, _]
    rw [e1]; exact hs
   ·
    simp; omega
 ·
  refine W_exit ?_
  show W _ _ _ _ _ _
  refine W_seq ?_
  refine h_start (S := fun w => w.heap[b2]? = some (.cells (mkA 19 (nc ⟨kind, typ, value, text, origin, flow, pl, pc, po, .slice ad ks.length cap⟩)) 31 (0, 0)) ∧ w.heap[tb]? = some (.cells (mkA 9 (tokC ttyp ts0 to pb)) 71 (0, 0))) (ls := #[false, false, false, false, false, false, false, false, false, false, false]) (n := 11) (by kernel_rfl) (by kernel_rfl) ?_
  have hs := hs.drew
  refine h_pu 0 rfl (ls' := #[true, false, false, false, false, false, false, false, false, false, false]) (by kernel_rfl) (fun _ _ _ h => h) rfl ⟨hs.cell .t5, hs.old ht⟩ (p_move rfl) ?_
  refine h_pu 1 rfl (ls' := #[true, true, false, false, false, false, false, false, false, false, false]) (by kernel_rfl) (fun _ _ _ h => h) rfl ⟨hs.cell .t5, hs.old ht⟩ (p_field rfl) ?_
  refine h_take 2 rfl (ls' := #[true, true, true, false, false, false, false, false, false, false, false]) (by kernel_rfl) (fun _ _ _ h => h) rfl ⟨hs.cell .t5, hs.old ht⟩ (fun w hw => q_ld rfl hw.1 rfl) ?_
  refine h_pu 3 rfl (ls' := #[true, true, true, true, false, false, false, false, false, false, false]) (by kernel_rfl) (fun _ _ _ h => h) rfl ⟨hs.cell .t5, hs.old ht⟩ (p_move rfl) ?_
  refine h_pu 4 rfl (ls' := #[true, true, true, true, true, false, false, false, false, false, false]) (by kernel_rfl) (fun _ _ _ h => h) rfl ⟨hs.cell .t5, hs.old ht⟩ (p_nilCheck rfl) ?_
  refine h_pu 5 rfl (ls' := #[true, true, true, true, true, true, false, false, false, false, false]) (by kernel_rfl) (fun _ _ _ h => h) rfl ⟨hs.cell .t5, hs.old ht⟩ (p_field rfl) ?_
  refine h_take 6 rfl (ls' := #[true, true, true, true, true, true, true, false, false, false, false]) (by kernel_rfl) (fun _ _ _ h => h) rfl ⟨hs.cell .t5, hs.old ht⟩ (fun w hw => q_ld rfl hw.2 rfl) ?_
  refine h_one 7 rfl (ls' := #[true, true, true, true, true, true, true, true, false, false, false]) (by kernel_rfl) ?_
  refine k_quiet (c_comments _ _) hs (.cons rfl (.cons rfl .nil)) rfl ?_
  rintro _ _ rfl hs _
  refine WL_th ⟨⟨hs.cell .t5, hs.old ht⟩, ?_⟩
  refine h_pu 8 rfl (ls' := #[true, true, true, true, true, true, true, true, true, false, false]) (by kernel_rfl) (fun _ _ _ h => h) rfl ⟨hs.cell .t5, hs.old ht⟩ (p_nilCheck rfl) ?_
  refine h_pu 9 rfl (ls' := #[true, true, true, true, true, true, true, true, true, true, false]) (by kernel_rfl) (fun _ _ _ h => h) rfl ⟨hs.cell .t5, hs.old ht⟩ (p_field rfl) ?_
  refine h_one 10 rfl (ls' := #[true, true, true, true, true, true, true, true, true, true, true]) (by kernel_rfl) ?_
  refine k_st hs rfl rfl .head rfl rfl ?_
  intro _ hs
  refine WL_th ⟨⟨hs.cell .t5, hs.old ht⟩, ?_⟩
  refine h_done (by kernel_rfl) ?_
  show W _ _ _ _ _ _
  refine W_forget (Ext.cd 5 rfl (Ext.nil _)) ?_
  refine W_sr ?_
  refine s_pu (p_move rfl) rfl ?_
  refine s_pu (p_iface rfl) rfl ?_
  refine s_pu (p_assign rfl) rfl ?_
  refine WL_th ?_
  refine W_ret ?_
  refine ret_tmp (fn := Tryz.f49) rfl rfl ?_
  have hlen2 : x.1.length = ks.length := by have : ¬ (x.1.length < ks.length) := (by simpa using h11); omega
  have hs := hs.front .t3
  have hs := hs.front .t2
  have hs := hs.front .t4
  have hs := hs.front .t3
  have hs := hs.seal_row (T := 175) rfl rfl (fun w S he => .seq rfl he)
  exact hs.first1.fresh ⟨_, rfl, rfl, by simp only [AT.shape, Rose.shape, hsh]; rw [hlen2, List.take_length], fun _ h => by exfalso; have h2 : kind = 14 := hkind; have h3 : kind ≤ 8 := h; omega⟩
end Go.Proofs.YtmalghopogngoaaGreatDoor
