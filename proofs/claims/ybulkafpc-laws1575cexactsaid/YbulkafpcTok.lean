/-
  PLAIN: a tokenizer's path as a record; its 168 cells; what 'join' and the law's own inner loop make of it.
-/
import Derived.Test.YbulkafpcRows
namespace Go.Proofs.Ybulkafpc
open Go

def z8 : Value := .int .u8 0
def fl : Value := .bool false

/-- a shortName's eighteen cells: none, title, desc -/
def nm (k : Nat) : List Value :=
  if k = 1 then [.int .u8 116, .int .u8 105, .int .u8 116, .int .u8 108, .int .u8 101, z8, z8, z8, z8, z8, z8, z8, z8, z8, z8, z8, .int .u8 5, fl]
  else if k = 2 then [.int .u8 100, .int .u8 101, .int .u8 115, .int .u8 99, z8, z8, z8, z8, z8, z8, z8, z8, z8, z8, z8, z8, .int .u8 4, fl]
  else [z8, z8, z8, z8, z8, z8, z8, z8, z8, z8, z8, z8, z8, z8, z8, z8, z8, fl]
theorem nm_length (k : Nat) : (nm k).length = 18 := by unfold nm; split <;> (try split) <;> rfl

structure Tree where
  svg : Int
  mth : Int
  point : Nat
  lost : Bool
  pre : Int
  listing : Int
  frameset : Bool
  selects : Int
  selTpl : Int
  templates : Int
  unsettled : Bool
  columns : Int

structure Tok where
  st : Int
  tg : Nat
  tree : Tree

def treeCells (t : Tree) : List Value :=
  [.int .i64 t.svg, .int .i64 t.mth] ++ nm t.point ++ [.bool t.lost, .int .i64 t.pre, .int .i64 t.listing, .bool t.frameset, .int .i64 t.selects, .int .i64 t.selTpl, .int .i64 t.templates, .bool t.unsettled, .int .i64 t.columns]
theorem treeCells_length (t : Tree) : (treeCells t).length = 29 := by simp [treeCells, nm_length]

/-- what lies between the tag and the tree: never written -/
def midCells : List Value :=
  [fl, fl] ++ nm 0 ++ ([z8, fl, fl] ++ nm 0 ++ nm 0 ++ [fl, fl]) ++ [z8] ++ nm 0 ++ [fl, fl] ++ nm 0 ++ nm 0 ++ [z8]
theorem midCells_length : midCells.length = 119 := by decide +kernel
def headCells (s : Int) (g : Nat) : List Value := [.int .u8 s, z8] ++ nm g ++ midCells
theorem headCells_length (s : Int) (g : Nat) : (headCells s g).length = 139 := by simp [headCells, nm_length, midCells_length]
def tokCells (t : Tok) : List Value := headCells t.st t.tg ++ treeCells t.tree
theorem tokCells_length (t : Tok) : (tokCells t).length = 168 := by simp [tokCells, headCells_length, treeCells_length]

/-- the zero value of each of the three types is what we say -/
theorem zero60 : (Yba.prog.info? 60).map (fun i => (i.zero, i.size, i.bytes)) = some (some (.agg (tokCells ⟨0, 0, ⟨0, 0, 0, false, 0, 0, false, 0, 0, 0, false, 0⟩⟩).toArray), 168, 248) := by kernel_rfl
theorem zero51 : (Yba.prog.info? 51).map (fun i => (i.zero, i.size, i.bytes)) = some (some (.agg (nm 0).toArray), 18, 18) := by kernel_rfl
theorem zero58 : (Yba.prog.info? 58).map (fun i => (i.zero, i.size, i.bytes)) = some (some (.agg (treeCells ⟨0, 0, 0, false, 0, 0, false, 0, 0, 0, false, 0⟩).toArray), 29, 104) := by kernel_rfl
end Go.Proofs.Ybulkafpc
